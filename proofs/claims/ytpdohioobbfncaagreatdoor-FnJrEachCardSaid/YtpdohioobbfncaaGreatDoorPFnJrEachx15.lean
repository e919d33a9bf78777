/- what the Go functions that the law FnJrEach reaches compute, each as a plain function, with the proof that the Go code computes just that; no condition beside those that each theorem states. -/
import Derived.Test.YtpdohioobbfncaaGreatDoorPFnJrEachx0
namespace Go.Proofs.YtpdohioobbfncaaGreatDoor.PFnJrEach
open Go.RowKit Go.Proofs.YtpdohioobbfncaaGreatDoorW.PrintWords Go.Proofs.YtpdohioobbfncaaGreatDoorW.PrintLast Go.Proofs.YtpdohioobbfncaaGreatDoorW.PrintMore
set_option linter.unusedVariables false
set_option linter.unusedSimpArgs false
mutual
def hI_.j0 : Nat → Int → Bool → Option (Int)
  | 0, _, _ => none
  | k + 1, x0, x8 => if x8 = true then (some ((x0 - 48) % 256)) else (if x0 ≥ 65 then (hI_.j1 k x0 (decide (x0 ≤ 70))) else (hI_.j1 k x0 false))
def hI_.j1 : Nat → Int → Bool → Option (Int)
  | 0, _, _ => none
  | k + 1, x0, x17 => if x17 = true then (some (((x0 - 65) % 256) + 10)) else (if x0 ≥ 97 then (if x0 ≤ 102 then (some (((x0 - 97) % 256) + 10)) else (some (-1))) else (some (-1)))
end
def hI_.f (k : Nat) (a0 : Int) : Option (Int) := if a0 ≥ 48 then (hI_.j0 k a0 (decide (a0 ≤ 57))) else (hI_.j0 k a0 false)
set_option maxHeartbeats 8000000 in
set_option maxRecDepth 100000 in
theorem hI_.calls (k : Nat) (a0 : Int) (r : Int) (w : World) (h : hI_.f k a0 = some r) :
    Calls Tryz.prog 101 #[.int .u8 a0] w fun e w' => e = .returned (.int .i64 r) ∧ Drawn0 w w' := by
 have H : (if a0 ≥ 48 then (hI_.j0 k a0 (decide (a0 ≤ 57))) else (hI_.j0 k a0 false)) = some r := h
 clear h
 have HC2 := Aside0.mk H
 clear H
 go_enter Tryz.func101, Tryz.ntmps101
 go_upto_region 1 with (fail)
 go_cut [8] (fun v8 wc => ∃ (kq : Nat) (x8_1 : Bool), v8 = .bool x8_1 ∧ Aside0 (hI_.j0 kq a0 x8_1 = some r) ∧ Aside0 (kq ≤ k) ∧ Drawn0 w wc)
 case first =>
  have H := HC2.out
  clear HC2
  by_cases c3 : a0 ≥ 48
  ·
   rw [if_pos c3] at H
   have c3b0 := decide_eq_true c3
   clear c3
   (first | rw [c3b0] | (simp only [i64_w, i32_w]; rw [c3b0]) | rw [c3b1] | skip)
   have H' := Aside0.mk H
   clear H
   go_wp2
   go_meet
   case rel => exact ⟨_, (decide (a0 ≤ 57)), zE, H', ⟨by first | omega | exact Nat.le_refl _⟩, zD⟩
  rw [if_neg c3] at H
  have c3b0 := decide_eq_false c3
  clear c3
  (first | rw [c3b0] | (simp only [i64_w, i32_w]; rw [c3b0]) | rw [c3b1] | skip)
  have H' := Aside0.mk H
  clear H
  go_wp2
  go_meet
  case rel => exact ⟨_, (false), zE, H', ⟨by first | omega | exact Nat.le_refl _⟩, zD⟩
 clear HC2
 obtain ⟨kq, x8_1, rfl, HA, HJ1, ⟨mc1, rfl⟩⟩ := hcut
 rcases kq with _ | kj1
 · exact absurd HA.out (by simp [hI_.j0])
 have H := HA.out
 clear HA
 simp only [hI_.j0] at H
 by_cases c4 : x8_1 = true
 ·
  subst c4
  rw [if_pos rfl] at H
  obtain rfl := Option.some.inj H
  go_wp2
  go_ret
  exact ⟨by first | rfl | (simp; done) | (simp [nil_ne_, nil_eq_]; done) | (simp [*]; done), zD⟩
 replace c4 := Bool.eq_false_iff.mpr c4
 subst c4
 rw [if_neg Bool.false_ne_true] at H
 have HC5 := Aside0.mk H
 clear H
 go_upto_region 3 with (fail)
 go_cut [17] (fun v17 wc => ∃ (kq : Nat) (x17_4 : Bool), v17 = .bool x17_4 ∧ Aside0 (hI_.j1 kq a0 x17_4 = some r) ∧ Aside0 (kq ≤ kj1) ∧ Drawn0 w wc)
 case first =>
  have H := HC5.out
  clear HC5
  by_cases c6 : a0 ≥ 65
  ·
   rw [if_pos c6] at H
   have c6b0 := decide_eq_true c6
   clear c6
   (first | rw [c6b0] | (simp only [i64_w, i32_w]; rw [c6b0]) | rw [c6b1] | skip)
   have H' := Aside0.mk H
   clear H
   go_wp2
   go_meet
   case rel => exact ⟨_, (decide (a0 ≤ 70)), zE, H', ⟨by have := HJ1.out; first | omega | exact Nat.le_refl _⟩, zD⟩
  rw [if_neg c6] at H
  have c6b0 := decide_eq_false c6
  clear c6
  (first | rw [c6b0] | (simp only [i64_w, i32_w]; rw [c6b0]) | rw [c6b1] | skip)
  have H' := Aside0.mk H
  clear H
  go_wp2
  go_meet
  case rel => exact ⟨_, (false), zE, H', ⟨by have := HJ1.out; first | omega | exact Nat.le_refl _⟩, zD⟩
 clear HC5
 (try clear c4)
 obtain ⟨kq, x17_4, rfl, HA, HJ4, ⟨mc4, rfl⟩⟩ := hcut
 rcases kq with _ | kj4
 · exact absurd HA.out (by simp [hI_.j1])
 have H := HA.out
 clear HA
 simp only [hI_.j1] at H
 by_cases c7 : x17_4 = true
 ·
  subst c7
  rw [if_pos rfl] at H
  obtain rfl := Option.some.inj H
  go_wp2
  go_ret
  exact ⟨by first | rfl | (simp; done) | (simp [nil_ne_, nil_eq_]; done) | (simp [*]; done), zD⟩
 replace c7 := Bool.eq_false_iff.mpr c7
 subst c7
 rw [if_neg Bool.false_ne_true] at H
 by_cases c8 : a0 ≥ 97
 ·
  rw [if_pos c8] at H
  have c8b0 := decide_eq_true c8
  clear c8
  by_cases c9 : a0 ≤ 102
  ·
   rw [if_pos c9] at H
   have c9b0 := decide_eq_true c9
   clear c9
   obtain rfl := Option.some.inj H
   go_wp2
   go_ret
   exact ⟨by first | rfl | (simp; done) | (simp [nil_ne_, nil_eq_]; done) | (simp [*]; done), zD⟩
  rw [if_neg c9] at H
  have c9b0 := decide_eq_false c9
  clear c9
  obtain rfl := Option.some.inj H
  go_wp2
  go_ret
  exact ⟨by first | rfl | (simp; done) | (simp [nil_ne_, nil_eq_]; done) | (simp [*]; done), zD⟩
 rw [if_neg c8] at H
 have c8b0 := decide_eq_false c8
 clear c8
 obtain rfl := Option.some.inj H
 go_wp2
 go_ret
 exact ⟨by first | rfl | (simp; done) | (simp [nil_ne_, nil_eq_]; done) | (simp [*]; done), zD⟩
def dSUE_.f (k : Nat) (l0 : List Int) : Option (Int × Bool) := if (l0.length : Int) < 6 then (some (65533, false)) else (if 2 < (l0.length : Int) then ((hI_.f k (rd l0 2)).bind fun t438 => (if 3 < (l0.length : Int) then ((hI_.f k (rd l0 3)).bind fun t440 => (if 4 < (l0.length : Int) then ((hI_.f k (rd l0 4)).bind fun t442 => (if 5 < (l0.length : Int) then ((hI_.f k (rd l0 5)).bind fun t444 => (if t438 = (-1) then (some (65533, false)) else (if t440 = (-1) then (some (65533, false)) else (if t442 = (-1) then (some (65533, false)) else (if t444 = (-1) then (some (65533, false)) else (some (wrap32 (wrap64 ((wrap64 ((wrap64 ((wrap64 (t438 * 4096)) + (wrap64 (t440 * 256)))) + (wrap64 (t442 * 16)))) + t444)), true))))))) else (none))) else (none))) else (none))) else (none))
set_option maxHeartbeats 8000000 in
set_option maxRecDepth 100000 in
theorem dSUE_.calls (k : Nat) (A0 : Option Addr) (c0 : Nat) (l0 : List Int) (r1 : Int) (r2 : Bool) (w : World) (hr0 : Kd.C (Kd.int .u8) w A0 l0.length l0) (hc0 : l0.length ≤ c0) (h : dSUE_.f k l0 = some (r1, r2)) :
    Calls Tryz.prog 93 #[.slice A0 l0.length c0] w fun e w' => e = .returned (.tuple #[.int .i32 r1, .bool r2]) ∧ Drawn0 w w' := by
 have HR0 := Aside0.mk hr0
 have HC0 := Aside0.mk hc0
 clear hr0 hc0
 have H : (if (l0.length : Int) < 6 then (some (65533, false)) else (if 2 < (l0.length : Int) then ((hI_.f k (rd l0 2)).bind fun t438 => (if 3 < (l0.length : Int) then ((hI_.f k (rd l0 3)).bind fun t440 => (if 4 < (l0.length : Int) then ((hI_.f k (rd l0 4)).bind fun t442 => (if 5 < (l0.length : Int) then ((hI_.f k (rd l0 5)).bind fun t444 => (if t438 = (-1) then (some (65533, false)) else (if t440 = (-1) then (some (65533, false)) else (if t442 = (-1) then (some (65533, false)) else (if t444 = (-1) then (some (65533, false)) else (some (wrap32 (wrap64 ((wrap64 ((wrap64 ((wrap64 (t438 * 4096)) + (wrap64 (t440 * 256)))) + (wrap64 (t442 * 16)))) + t444)), true))))))) else (none))) else (none))) else (none))) else (none))) = some (r1, r2) := h
 clear h
 by_cases c2 : (l0.length : Int) < 6
 ·
  rw [if_pos c2] at H
  have c2b0 := decide_eq_true c2
  have c2b1 : decide (l0.length < 6) = true := decide_eq_true (by omega)
  clear c2
  simp only [Option.some.injEq, Prod.mk.injEq] at H
  obtain ⟨rfl, rfl⟩ := H
  go_enter Tryz.func93, Tryz.ntmps93
  go_wp2
  repeat (go_quiet (fail); try go_wp2)
  go_ret2
  exact ⟨by first | rfl | (simp; done) | (simp [nil_ne_, nil_eq_]; done) | (simp [*]; done), zD⟩
 rw [if_neg c2] at H
 have c2b0 := decide_eq_false c2
 have c2b1 : decide (l0.length < 6) = false := decide_eq_false (by omega)
 clear c2
 by_cases c3 : 2 < (l0.length : Int)
 ·
  rw [if_pos c3] at H
  have c3b0 := decide_eq_true c3
  have c3b1 : decide (2 < l0.length) = true := decide_eq_true (by omega)
  clear c3
  replace H := Option.bind_eq_some_iff.mp H
  obtain ⟨t438, A40, H⟩ := H
  try dsimp only at H
  have A4 := Aside0.mk A40
  clear A40
  by_cases c5 : 3 < (l0.length : Int)
  ·
   rw [if_pos c5] at H
   have c5b0 := decide_eq_true c5
   have c5b1 : decide (3 < l0.length) = true := decide_eq_true (by omega)
   clear c5
   replace H := Option.bind_eq_some_iff.mp H
   obtain ⟨t440, A60, H⟩ := H
   try dsimp only at H
   have A6 := Aside0.mk A60
   clear A60
   by_cases c7 : 4 < (l0.length : Int)
   ·
    rw [if_pos c7] at H
    have c7b0 := decide_eq_true c7
    have c7b1 : decide (4 < l0.length) = true := decide_eq_true (by omega)
    clear c7
    replace H := Option.bind_eq_some_iff.mp H
    obtain ⟨t442, A80, H⟩ := H
    try dsimp only at H
    have A8 := Aside0.mk A80
    clear A80
    by_cases c9 : 5 < (l0.length : Int)
    ·
     rw [if_pos c9] at H
     have c9b0 := decide_eq_true c9
     have c9b1 : decide (5 < l0.length) = true := decide_eq_true (by omega)
     clear c9
     replace H := Option.bind_eq_some_iff.mp H
     obtain ⟨t444, A100, H⟩ := H
     try dsimp only at H
     have A10 := Aside0.mk A100
     clear A100
     by_cases c11 : t438 = (-1)
     ·
      rw [if_pos c11] at H
      have c11b0 := beq_iff_eq.mpr c11
      have c11b1 := bne_eq_false_iff_eq.mpr c11
      clear c11
      simp only [Option.some.injEq, Prod.mk.injEq] at H
      obtain ⟨rfl, rfl⟩ := H
      have p437 : 0 ≤ (2 : Int) := (by omega)
      have q437 : 2 < (l0.length : Int) := dT
      obtain ⟨ad437, e437, hx437_0⟩ := Kd.at_int HR0.out 2 p437 q437
      cases e437
      (try simp only [show (2 : Int).toNat = 2 from rfl, Nat.reduceMul, Nat.reduceEqDiff, Go.Addr.add, ↓reduceIte] at hx437_0)
      have qi437 : (2 < l0.length) = True := eq_true (by omega)
      (try rw [show ((2 : Int)).toNat = 2 from rfl] at hx437_0)
      replace p437 := eq_true p437
      replace q437 := eq_true q437
      go_enter Tryz.func93, Tryz.ntmps93
      iterate 3 (try go_wp2_with (first | (go_at_call 101; (with_reducible refine (hI_.calls k (rd l0 2) t438 _ A4.out).mono ?_); rintro e w' ⟨rfl, ⟨nd, rfl⟩⟩; (try first | ((with_reducible refine ⟨?_, _, World.drewN_drewN _ _ _⟩); rfl) | ((with_reducible refine ⟨?_, _, Eq.trans (World.drewN_drewN _ _ _) (congrArg (World.drewN _) (Nat.add_assoc _ _ _))⟩); rfl)); have p439 : 0 ≤ (3 : Int) := (by omega); have q439 : 3 < (l0.length : Int) := dT; obtain ⟨ad439, e439, hx439_0⟩ := Kd.at_int HR0.out 3 p439 q439; obtain rfl : ad437 = ad439 := (by injection e439); (try simp only [show (3 : Int).toNat = 3 from rfl, Nat.reduceMul, Nat.reduceEqDiff, Go.Addr.add, ↓reduceIte] at hx439_0); have qi439 : (3 < l0.length) = True := eq_true (by omega); (try rw [show ((3 : Int)).toNat = 3 from rfl] at hx439_0); replace p439 := eq_true p439; replace q439 := eq_true q439) | (go_at_call 101; (with_reducible refine (hI_.calls k (rd l0 3) t440 _ A6.out).mono ?_); rintro e w' ⟨rfl, ⟨nd, rfl⟩⟩; (try first | ((with_reducible refine ⟨?_, _, World.drewN_drewN _ _ _⟩); rfl) | ((with_reducible refine ⟨?_, _, Eq.trans (World.drewN_drewN _ _ _) (congrArg (World.drewN _) (Nat.add_assoc _ _ _))⟩); rfl)); have p441 : 0 ≤ (4 : Int) := (by omega); have q441 : 4 < (l0.length : Int) := dT; obtain ⟨ad441, e441, hx441_0⟩ := Kd.at_int HR0.out 4 p441 q441; obtain rfl : ad437 = ad441 := (by injection e441); (try simp only [show (4 : Int).toNat = 4 from rfl, Nat.reduceMul, Nat.reduceEqDiff, Go.Addr.add, ↓reduceIte] at hx441_0); have qi441 : (4 < l0.length) = True := eq_true (by omega); (try rw [show ((4 : Int)).toNat = 4 from rfl] at hx441_0); replace p441 := eq_true p441; replace q441 := eq_true q441) | (go_at_call 101; (with_reducible refine (hI_.calls k (rd l0 4) t442 _ A8.out).mono ?_); rintro e w' ⟨rfl, ⟨nd, rfl⟩⟩; (try first | ((with_reducible refine ⟨?_, _, World.drewN_drewN _ _ _⟩); rfl) | ((with_reducible refine ⟨?_, _, Eq.trans (World.drewN_drewN _ _ _) (congrArg (World.drewN _) (Nat.add_assoc _ _ _))⟩); rfl)); have p443 : 0 ≤ (5 : Int) := (by omega); have q443 : 5 < (l0.length : Int) := dT; obtain ⟨ad443, e443, hx443_0⟩ := Kd.at_int HR0.out 5 p443 q443; obtain rfl : ad437 = ad443 := (by injection e443); (try simp only [show (5 : Int).toNat = 5 from rfl, Nat.reduceMul, Nat.reduceEqDiff, Go.Addr.add, ↓reduceIte] at hx443_0); have qi443 : (5 < l0.length) = True := eq_true (by omega); (try rw [show ((5 : Int)).toNat = 5 from rfl] at hx443_0); replace p443 := eq_true p443; replace q443 := eq_true q443) | (go_at_call 101; (with_reducible refine (hI_.calls k (rd l0 5) t444 _ A10.out).mono ?_); rintro e w' ⟨rfl, ⟨nd, rfl⟩⟩; (try first | ((with_reducible refine ⟨?_, _, World.drewN_drewN _ _ _⟩); rfl) | ((with_reducible refine ⟨?_, _, Eq.trans (World.drewN_drewN _ _ _) (congrArg (World.drewN _) (Nat.add_assoc _ _ _))⟩); rfl)))); try go_quiet (first | (go_at_call 101; (with_reducible refine (hI_.calls k (rd l0 2) t438 _ A4.out).mono ?_); rintro e w' ⟨rfl, ⟨nd, rfl⟩⟩; (try first | ((with_reducible refine ⟨?_, _, World.drewN_drewN _ _ _⟩); rfl) | ((with_reducible refine ⟨?_, _, Eq.trans (World.drewN_drewN _ _ _) (congrArg (World.drewN _) (Nat.add_assoc _ _ _))⟩); rfl)); have p439 : 0 ≤ (3 : Int) := (by omega); have q439 : 3 < (l0.length : Int) := dT; obtain ⟨ad439, e439, hx439_0⟩ := Kd.at_int HR0.out 3 p439 q439; obtain rfl : ad437 = ad439 := (by injection e439); (try simp only [show (3 : Int).toNat = 3 from rfl, Nat.reduceMul, Nat.reduceEqDiff, Go.Addr.add, ↓reduceIte] at hx439_0); have qi439 : (3 < l0.length) = True := eq_true (by omega); (try rw [show ((3 : Int)).toNat = 3 from rfl] at hx439_0); replace p439 := eq_true p439; replace q439 := eq_true q439) | (go_at_call 101; (with_reducible refine (hI_.calls k (rd l0 3) t440 _ A6.out).mono ?_); rintro e w' ⟨rfl, ⟨nd, rfl⟩⟩; (try first | ((with_reducible refine ⟨?_, _, World.drewN_drewN _ _ _⟩); rfl) | ((with_reducible refine ⟨?_, _, Eq.trans (World.drewN_drewN _ _ _) (congrArg (World.drewN _) (Nat.add_assoc _ _ _))⟩); rfl)); have p441 : 0 ≤ (4 : Int) := (by omega); have q441 : 4 < (l0.length : Int) := dT; obtain ⟨ad441, e441, hx441_0⟩ := Kd.at_int HR0.out 4 p441 q441; obtain rfl : ad437 = ad441 := (by injection e441); (try simp only [show (4 : Int).toNat = 4 from rfl, Nat.reduceMul, Nat.reduceEqDiff, Go.Addr.add, ↓reduceIte] at hx441_0); have qi441 : (4 < l0.length) = True := eq_true (by omega); (try rw [show ((4 : Int)).toNat = 4 from rfl] at hx441_0); replace p441 := eq_true p441; replace q441 := eq_true q441) | (go_at_call 101; (with_reducible refine (hI_.calls k (rd l0 4) t442 _ A8.out).mono ?_); rintro e w' ⟨rfl, ⟨nd, rfl⟩⟩; (try first | ((with_reducible refine ⟨?_, _, World.drewN_drewN _ _ _⟩); rfl) | ((with_reducible refine ⟨?_, _, Eq.trans (World.drewN_drewN _ _ _) (congrArg (World.drewN _) (Nat.add_assoc _ _ _))⟩); rfl)); have p443 : 0 ≤ (5 : Int) := (by omega); have q443 : 5 < (l0.length : Int) := dT; obtain ⟨ad443, e443, hx443_0⟩ := Kd.at_int HR0.out 5 p443 q443; obtain rfl : ad437 = ad443 := (by injection e443); (try simp only [show (5 : Int).toNat = 5 from rfl, Nat.reduceMul, Nat.reduceEqDiff, Go.Addr.add, ↓reduceIte] at hx443_0); have qi443 : (5 < l0.length) = True := eq_true (by omega); (try rw [show ((5 : Int)).toNat = 5 from rfl] at hx443_0); replace p443 := eq_true p443; replace q443 := eq_true q443) | (go_at_call 101; (with_reducible refine (hI_.calls k (rd l0 5) t444 _ A10.out).mono ?_); rintro e w' ⟨rfl, ⟨nd, rfl⟩⟩; (try first | ((with_reducible refine ⟨?_, _, World.drewN_drewN _ _ _⟩); rfl) | ((with_reducible refine ⟨?_, _, Eq.trans (World.drewN_drewN _ _ _) (congrArg (World.drewN _) (Nat.add_assoc _ _ _))⟩); rfl)))))
      go_ret2
      exact ⟨by first | rfl | (simp; done) | (simp [nil_ne_, nil_eq_]; done) | (simp [*]; done), zD⟩
     rw [if_neg c11] at H
     have c11b0 := beq_eq_false_iff_ne.mpr c11
     have c11b1 := bne_iff_ne.mpr c11
     by_cases c12 : t440 = (-1)
     ·
      rw [if_pos c12] at H
      have c12b0 := beq_iff_eq.mpr c12
      have c12b1 := bne_eq_false_iff_eq.mpr c12
      clear c12
      simp only [Option.some.injEq, Prod.mk.injEq] at H
      obtain ⟨rfl, rfl⟩ := H
      have p437 : 0 ≤ (2 : Int) := (by omega)
      have q437 : 2 < (l0.length : Int) := dT
      obtain ⟨ad437, e437, hx437_0⟩ := Kd.at_int HR0.out 2 p437 q437
      cases e437
      (try simp only [show (2 : Int).toNat = 2 from rfl, Nat.reduceMul, Nat.reduceEqDiff, Go.Addr.add, ↓reduceIte] at hx437_0)
      have qi437 : (2 < l0.length) = True := eq_true (by omega)
      (try rw [show ((2 : Int)).toNat = 2 from rfl] at hx437_0)
      replace p437 := eq_true p437
      replace q437 := eq_true q437
      go_enter Tryz.func93, Tryz.ntmps93
      iterate 3 (try go_wp2_with (first | (go_at_call 101; (with_reducible refine (hI_.calls k (rd l0 2) t438 _ A4.out).mono ?_); rintro e w' ⟨rfl, ⟨nd, rfl⟩⟩; (try first | ((with_reducible refine ⟨?_, _, World.drewN_drewN _ _ _⟩); rfl) | ((with_reducible refine ⟨?_, _, Eq.trans (World.drewN_drewN _ _ _) (congrArg (World.drewN _) (Nat.add_assoc _ _ _))⟩); rfl)); have p439 : 0 ≤ (3 : Int) := (by omega); have q439 : 3 < (l0.length : Int) := dT; obtain ⟨ad439, e439, hx439_0⟩ := Kd.at_int HR0.out 3 p439 q439; obtain rfl : ad437 = ad439 := (by injection e439); (try simp only [show (3 : Int).toNat = 3 from rfl, Nat.reduceMul, Nat.reduceEqDiff, Go.Addr.add, ↓reduceIte] at hx439_0); have qi439 : (3 < l0.length) = True := eq_true (by omega); (try rw [show ((3 : Int)).toNat = 3 from rfl] at hx439_0); replace p439 := eq_true p439; replace q439 := eq_true q439) | (go_at_call 101; (with_reducible refine (hI_.calls k (rd l0 3) t440 _ A6.out).mono ?_); rintro e w' ⟨rfl, ⟨nd, rfl⟩⟩; (try first | ((with_reducible refine ⟨?_, _, World.drewN_drewN _ _ _⟩); rfl) | ((with_reducible refine ⟨?_, _, Eq.trans (World.drewN_drewN _ _ _) (congrArg (World.drewN _) (Nat.add_assoc _ _ _))⟩); rfl)); have p441 : 0 ≤ (4 : Int) := (by omega); have q441 : 4 < (l0.length : Int) := dT; obtain ⟨ad441, e441, hx441_0⟩ := Kd.at_int HR0.out 4 p441 q441; obtain rfl : ad437 = ad441 := (by injection e441); (try simp only [show (4 : Int).toNat = 4 from rfl, Nat.reduceMul, Nat.reduceEqDiff, Go.Addr.add, ↓reduceIte] at hx441_0); have qi441 : (4 < l0.length) = True := eq_true (by omega); (try rw [show ((4 : Int)).toNat = 4 from rfl] at hx441_0); replace p441 := eq_true p441; replace q441 := eq_true q441) | (go_at_call 101; (with_reducible refine (hI_.calls k (rd l0 4) t442 _ A8.out).mono ?_); rintro e w' ⟨rfl, ⟨nd, rfl⟩⟩; (try first | ((with_reducible refine ⟨?_, _, World.drewN_drewN _ _ _⟩); rfl) | ((with_reducible refine ⟨?_, _, Eq.trans (World.drewN_drewN _ _ _) (congrArg (World.drewN _) (Nat.add_assoc _ _ _))⟩); rfl)); have p443 : 0 ≤ (5 : Int) := (by omega); have q443 : 5 < (l0.length : Int) := dT; obtain ⟨ad443, e443, hx443_0⟩ := Kd.at_int HR0.out 5 p443 q443; obtain rfl : ad437 = ad443 := (by injection e443); (try simp only [show (5 : Int).toNat = 5 from rfl, Nat.reduceMul, Nat.reduceEqDiff, Go.Addr.add, ↓reduceIte] at hx443_0); have qi443 : (5 < l0.length) = True := eq_true (by omega); (try rw [show ((5 : Int)).toNat = 5 from rfl] at hx443_0); replace p443 := eq_true p443; replace q443 := eq_true q443) | (go_at_call 101; (with_reducible refine (hI_.calls k (rd l0 5) t444 _ A10.out).mono ?_); rintro e w' ⟨rfl, ⟨nd, rfl⟩⟩; (try first | ((with_reducible refine ⟨?_, _, World.drewN_drewN _ _ _⟩); rfl) | ((with_reducible refine ⟨?_, _, Eq.trans (World.drewN_drewN _ _ _) (congrArg (World.drewN _) (Nat.add_assoc _ _ _))⟩); rfl)))); try go_quiet (first | (go_at_call 101; (with_reducible refine (hI_.calls k (rd l0 2) t438 _ A4.out).mono ?_); rintro e w' ⟨rfl, ⟨nd, rfl⟩⟩; (try first | ((with_reducible refine ⟨?_, _, World.drewN_drewN _ _ _⟩); rfl) | ((with_reducible refine ⟨?_, _, Eq.trans (World.drewN_drewN _ _ _) (congrArg (World.drewN _) (Nat.add_assoc _ _ _))⟩); rfl)); have p439 : 0 ≤ (3 : Int) := (by omega); have q439 : 3 < (l0.length : Int) := dT; obtain ⟨ad439, e439, hx439_0⟩ := Kd.at_int HR0.out 3 p439 q439; obtain rfl : ad437 = ad439 := (by injection e439); (try simp only [show (3 : Int).toNat = 3 from rfl, Nat.reduceMul, Nat.reduceEqDiff, Go.Addr.add, ↓reduceIte] at hx439_0); have qi439 : (3 < l0.length) = True := eq_true (by omega); (try rw [show ((3 : Int)).toNat = 3 from rfl] at hx439_0); replace p439 := eq_true p439; replace q439 := eq_true q439) | (go_at_call 101; (with_reducible refine (hI_.calls k (rd l0 3) t440 _ A6.out).mono ?_); rintro e w' ⟨rfl, ⟨nd, rfl⟩⟩; (try first | ((with_reducible refine ⟨?_, _, World.drewN_drewN _ _ _⟩); rfl) | ((with_reducible refine ⟨?_, _, Eq.trans (World.drewN_drewN _ _ _) (congrArg (World.drewN _) (Nat.add_assoc _ _ _))⟩); rfl)); have p441 : 0 ≤ (4 : Int) := (by omega); have q441 : 4 < (l0.length : Int) := dT; obtain ⟨ad441, e441, hx441_0⟩ := Kd.at_int HR0.out 4 p441 q441; obtain rfl : ad437 = ad441 := (by injection e441); (try simp only [show (4 : Int).toNat = 4 from rfl, Nat.reduceMul, Nat.reduceEqDiff, Go.Addr.add, ↓reduceIte] at hx441_0); have qi441 : (4 < l0.length) = True := eq_true (by omega); (try rw [show ((4 : Int)).toNat = 4 from rfl] at hx441_0); replace p441 := eq_true p441; replace q441 := eq_true q441) | (go_at_call 101; (with_reducible refine (hI_.calls k (rd l0 4) t442 _ A8.out).mono ?_); rintro e w' ⟨rfl, ⟨nd, rfl⟩⟩; (try first | ((with_reducible refine ⟨?_, _, World.drewN_drewN _ _ _⟩); rfl) | ((with_reducible refine ⟨?_, _, Eq.trans (World.drewN_drewN _ _ _) (congrArg (World.drewN _) (Nat.add_assoc _ _ _))⟩); rfl)); have p443 : 0 ≤ (5 : Int) := (by omega); have q443 : 5 < (l0.length : Int) := dT; obtain ⟨ad443, e443, hx443_0⟩ := Kd.at_int HR0.out 5 p443 q443; obtain rfl : ad437 = ad443 := (by injection e443); (try simp only [show (5 : Int).toNat = 5 from rfl, Nat.reduceMul, Nat.reduceEqDiff, Go.Addr.add, ↓reduceIte] at hx443_0); have qi443 : (5 < l0.length) = True := eq_true (by omega); (try rw [show ((5 : Int)).toNat = 5 from rfl] at hx443_0); replace p443 := eq_true p443; replace q443 := eq_true q443) | (go_at_call 101; (with_reducible refine (hI_.calls k (rd l0 5) t444 _ A10.out).mono ?_); rintro e w' ⟨rfl, ⟨nd, rfl⟩⟩; (try first | ((with_reducible refine ⟨?_, _, World.drewN_drewN _ _ _⟩); rfl) | ((with_reducible refine ⟨?_, _, Eq.trans (World.drewN_drewN _ _ _) (congrArg (World.drewN _) (Nat.add_assoc _ _ _))⟩); rfl)))))
      go_ret2
      exact ⟨by first | rfl | (simp; done) | (simp [nil_ne_, nil_eq_]; done) | (simp [*]; done), zD⟩
     rw [if_neg c12] at H
     have c12b0 := beq_eq_false_iff_ne.mpr c12
     have c12b1 := bne_iff_ne.mpr c12
     by_cases c13 : t442 = (-1)
     ·
      rw [if_pos c13] at H
      have c13b0 := beq_iff_eq.mpr c13
      have c13b1 := bne_eq_false_iff_eq.mpr c13
      clear c13
      simp only [Option.some.injEq, Prod.mk.injEq] at H
      obtain ⟨rfl, rfl⟩ := H
      have p437 : 0 ≤ (2 : Int) := (by omega)
      have q437 : 2 < (l0.length : Int) := dT
      obtain ⟨ad437, e437, hx437_0⟩ := Kd.at_int HR0.out 2 p437 q437
      cases e437
      (try simp only [show (2 : Int).toNat = 2 from rfl, Nat.reduceMul, Nat.reduceEqDiff, Go.Addr.add, ↓reduceIte] at hx437_0)
      have qi437 : (2 < l0.length) = True := eq_true (by omega)
      (try rw [show ((2 : Int)).toNat = 2 from rfl] at hx437_0)
      replace p437 := eq_true p437
      replace q437 := eq_true q437
      go_enter Tryz.func93, Tryz.ntmps93
      iterate 3 (try go_wp2_with (first | (go_at_call 101; (with_reducible refine (hI_.calls k (rd l0 2) t438 _ A4.out).mono ?_); rintro e w' ⟨rfl, ⟨nd, rfl⟩⟩; (try first | ((with_reducible refine ⟨?_, _, World.drewN_drewN _ _ _⟩); rfl) | ((with_reducible refine ⟨?_, _, Eq.trans (World.drewN_drewN _ _ _) (congrArg (World.drewN _) (Nat.add_assoc _ _ _))⟩); rfl)); have p439 : 0 ≤ (3 : Int) := (by omega); have q439 : 3 < (l0.length : Int) := dT; obtain ⟨ad439, e439, hx439_0⟩ := Kd.at_int HR0.out 3 p439 q439; obtain rfl : ad437 = ad439 := (by injection e439); (try simp only [show (3 : Int).toNat = 3 from rfl, Nat.reduceMul, Nat.reduceEqDiff, Go.Addr.add, ↓reduceIte] at hx439_0); have qi439 : (3 < l0.length) = True := eq_true (by omega); (try rw [show ((3 : Int)).toNat = 3 from rfl] at hx439_0); replace p439 := eq_true p439; replace q439 := eq_true q439) | (go_at_call 101; (with_reducible refine (hI_.calls k (rd l0 3) t440 _ A6.out).mono ?_); rintro e w' ⟨rfl, ⟨nd, rfl⟩⟩; (try first | ((with_reducible refine ⟨?_, _, World.drewN_drewN _ _ _⟩); rfl) | ((with_reducible refine ⟨?_, _, Eq.trans (World.drewN_drewN _ _ _) (congrArg (World.drewN _) (Nat.add_assoc _ _ _))⟩); rfl)); have p441 : 0 ≤ (4 : Int) := (by omega); have q441 : 4 < (l0.length : Int) := dT; obtain ⟨ad441, e441, hx441_0⟩ := Kd.at_int HR0.out 4 p441 q441; obtain rfl : ad437 = ad441 := (by injection e441); (try simp only [show (4 : Int).toNat = 4 from rfl, Nat.reduceMul, Nat.reduceEqDiff, Go.Addr.add, ↓reduceIte] at hx441_0); have qi441 : (4 < l0.length) = True := eq_true (by omega); (try rw [show ((4 : Int)).toNat = 4 from rfl] at hx441_0); replace p441 := eq_true p441; replace q441 := eq_true q441) | (go_at_call 101; (with_reducible refine (hI_.calls k (rd l0 4) t442 _ A8.out).mono ?_); rintro e w' ⟨rfl, ⟨nd, rfl⟩⟩; (try first | ((with_reducible refine ⟨?_, _, World.drewN_drewN _ _ _⟩); rfl) | ((with_reducible refine ⟨?_, _, Eq.trans (World.drewN_drewN _ _ _) (congrArg (World.drewN _) (Nat.add_assoc _ _ _))⟩); rfl)); have p443 : 0 ≤ (5 : Int) := (by omega); have q443 : 5 < (l0.length : Int) := dT; obtain ⟨ad443, e443, hx443_0⟩ := Kd.at_int HR0.out 5 p443 q443; obtain rfl : ad437 = ad443 := (by injection e443); (try simp only [show (5 : Int).toNat = 5 from rfl, Nat.reduceMul, Nat.reduceEqDiff, Go.Addr.add, ↓reduceIte] at hx443_0); have qi443 : (5 < l0.length) = True := eq_true (by omega); (try rw [show ((5 : Int)).toNat = 5 from rfl] at hx443_0); replace p443 := eq_true p443; replace q443 := eq_true q443) | (go_at_call 101; (with_reducible refine (hI_.calls k (rd l0 5) t444 _ A10.out).mono ?_); rintro e w' ⟨rfl, ⟨nd, rfl⟩⟩; (try first | ((with_reducible refine ⟨?_, _, World.drewN_drewN _ _ _⟩); rfl) | ((with_reducible refine ⟨?_, _, Eq.trans (World.drewN_drewN _ _ _) (congrArg (World.drewN _) (Nat.add_assoc _ _ _))⟩); rfl)))); try go_quiet (first | (go_at_call 101; (with_reducible refine (hI_.calls k (rd l0 2) t438 _ A4.out).mono ?_); rintro e w' ⟨rfl, ⟨nd, rfl⟩⟩; (try first | ((with_reducible refine ⟨?_, _, World.drewN_drewN _ _ _⟩); rfl) | ((with_reducible refine ⟨?_, _, Eq.trans (World.drewN_drewN _ _ _) (congrArg (World.drewN _) (Nat.add_assoc _ _ _))⟩); rfl)); have p439 : 0 ≤ (3 : Int) := (by omega); have q439 : 3 < (l0.length : Int) := dT; obtain ⟨ad439, e439, hx439_0⟩ := Kd.at_int HR0.out 3 p439 q439; obtain rfl : ad437 = ad439 := (by injection e439); (try simp only [show (3 : Int).toNat = 3 from rfl, Nat.reduceMul, Nat.reduceEqDiff, Go.Addr.add, ↓reduceIte] at hx439_0); have qi439 : (3 < l0.length) = True := eq_true (by omega); (try rw [show ((3 : Int)).toNat = 3 from rfl] at hx439_0); replace p439 := eq_true p439; replace q439 := eq_true q439) | (go_at_call 101; (with_reducible refine (hI_.calls k (rd l0 3) t440 _ A6.out).mono ?_); rintro e w' ⟨rfl, ⟨nd, rfl⟩⟩; (try first | ((with_reducible refine ⟨?_, _, World.drewN_drewN _ _ _⟩); rfl) | ((with_reducible refine ⟨?_, _, Eq.trans (World.drewN_drewN _ _ _) (congrArg (World.drewN _) (Nat.add_assoc _ _ _))⟩); rfl)); have p441 : 0 ≤ (4 : Int) := (by omega); have q441 : 4 < (l0.length : Int) := dT; obtain ⟨ad441, e441, hx441_0⟩ := Kd.at_int HR0.out 4 p441 q441; obtain rfl : ad437 = ad441 := (by injection e441); (try simp only [show (4 : Int).toNat = 4 from rfl, Nat.reduceMul, Nat.reduceEqDiff, Go.Addr.add, ↓reduceIte] at hx441_0); have qi441 : (4 < l0.length) = True := eq_true (by omega); (try rw [show ((4 : Int)).toNat = 4 from rfl] at hx441_0); replace p441 := eq_true p441; replace q441 := eq_true q441) | (go_at_call 101; (with_reducible refine (hI_.calls k (rd l0 4) t442 _ A8.out).mono ?_); rintro e w' ⟨rfl, ⟨nd, rfl⟩⟩; (try first | ((with_reducible refine ⟨?_, _, World.drewN_drewN _ _ _⟩); rfl) | ((with_reducible refine ⟨?_, _, Eq.trans (World.drewN_drewN _ _ _) (congrArg (World.drewN _) (Nat.add_assoc _ _ _))⟩); rfl)); have p443 : 0 ≤ (5 : Int) := (by omega); have q443 : 5 < (l0.length : Int) := dT; obtain ⟨ad443, e443, hx443_0⟩ := Kd.at_int HR0.out 5 p443 q443; obtain rfl : ad437 = ad443 := (by injection e443); (try simp only [show (5 : Int).toNat = 5 from rfl, Nat.reduceMul, Nat.reduceEqDiff, Go.Addr.add, ↓reduceIte] at hx443_0); have qi443 : (5 < l0.length) = True := eq_true (by omega); (try rw [show ((5 : Int)).toNat = 5 from rfl] at hx443_0); replace p443 := eq_true p443; replace q443 := eq_true q443) | (go_at_call 101; (with_reducible refine (hI_.calls k (rd l0 5) t444 _ A10.out).mono ?_); rintro e w' ⟨rfl, ⟨nd, rfl⟩⟩; (try first | ((with_reducible refine ⟨?_, _, World.drewN_drewN _ _ _⟩); rfl) | ((with_reducible refine ⟨?_, _, Eq.trans (World.drewN_drewN _ _ _) (congrArg (World.drewN _) (Nat.add_assoc _ _ _))⟩); rfl)))))
      go_ret2
      exact ⟨by first | rfl | (simp; done) | (simp [nil_ne_, nil_eq_]; done) | (simp [*]; done), zD⟩
     rw [if_neg c13] at H
     have c13b0 := beq_eq_false_iff_ne.mpr c13
     have c13b1 := bne_iff_ne.mpr c13
     by_cases c14 : t444 = (-1)
     ·
      rw [if_pos c14] at H
      have c14b0 := beq_iff_eq.mpr c14
      have c14b1 := bne_eq_false_iff_eq.mpr c14
      clear c14
      simp only [Option.some.injEq, Prod.mk.injEq] at H
      obtain ⟨rfl, rfl⟩ := H
      have p437 : 0 ≤ (2 : Int) := (by omega)
      have q437 : 2 < (l0.length : Int) := dT
      obtain ⟨ad437, e437, hx437_0⟩ := Kd.at_int HR0.out 2 p437 q437
      cases e437
      (try simp only [show (2 : Int).toNat = 2 from rfl, Nat.reduceMul, Nat.reduceEqDiff, Go.Addr.add, ↓reduceIte] at hx437_0)
      have qi437 : (2 < l0.length) = True := eq_true (by omega)
      (try rw [show ((2 : Int)).toNat = 2 from rfl] at hx437_0)
      replace p437 := eq_true p437
      replace q437 := eq_true q437
      go_enter Tryz.func93, Tryz.ntmps93
      iterate 3 (try go_wp2_with (first | (go_at_call 101; (with_reducible refine (hI_.calls k (rd l0 2) t438 _ A4.out).mono ?_); rintro e w' ⟨rfl, ⟨nd, rfl⟩⟩; (try first | ((with_reducible refine ⟨?_, _, World.drewN_drewN _ _ _⟩); rfl) | ((with_reducible refine ⟨?_, _, Eq.trans (World.drewN_drewN _ _ _) (congrArg (World.drewN _) (Nat.add_assoc _ _ _))⟩); rfl)); have p439 : 0 ≤ (3 : Int) := (by omega); have q439 : 3 < (l0.length : Int) := dT; obtain ⟨ad439, e439, hx439_0⟩ := Kd.at_int HR0.out 3 p439 q439; obtain rfl : ad437 = ad439 := (by injection e439); (try simp only [show (3 : Int).toNat = 3 from rfl, Nat.reduceMul, Nat.reduceEqDiff, Go.Addr.add, ↓reduceIte] at hx439_0); have qi439 : (3 < l0.length) = True := eq_true (by omega); (try rw [show ((3 : Int)).toNat = 3 from rfl] at hx439_0); replace p439 := eq_true p439; replace q439 := eq_true q439) | (go_at_call 101; (with_reducible refine (hI_.calls k (rd l0 3) t440 _ A6.out).mono ?_); rintro e w' ⟨rfl, ⟨nd, rfl⟩⟩; (try first | ((with_reducible refine ⟨?_, _, World.drewN_drewN _ _ _⟩); rfl) | ((with_reducible refine ⟨?_, _, Eq.trans (World.drewN_drewN _ _ _) (congrArg (World.drewN _) (Nat.add_assoc _ _ _))⟩); rfl)); have p441 : 0 ≤ (4 : Int) := (by omega); have q441 : 4 < (l0.length : Int) := dT; obtain ⟨ad441, e441, hx441_0⟩ := Kd.at_int HR0.out 4 p441 q441; obtain rfl : ad437 = ad441 := (by injection e441); (try simp only [show (4 : Int).toNat = 4 from rfl, Nat.reduceMul, Nat.reduceEqDiff, Go.Addr.add, ↓reduceIte] at hx441_0); have qi441 : (4 < l0.length) = True := eq_true (by omega); (try rw [show ((4 : Int)).toNat = 4 from rfl] at hx441_0); replace p441 := eq_true p441; replace q441 := eq_true q441) | (go_at_call 101; (with_reducible refine (hI_.calls k (rd l0 4) t442 _ A8.out).mono ?_); rintro e w' ⟨rfl, ⟨nd, rfl⟩⟩; (try first | ((with_reducible refine ⟨?_, _, World.drewN_drewN _ _ _⟩); rfl) | ((with_reducible refine ⟨?_, _, Eq.trans (World.drewN_drewN _ _ _) (congrArg (World.drewN _) (Nat.add_assoc _ _ _))⟩); rfl)); have p443 : 0 ≤ (5 : Int) := (by omega); have q443 : 5 < (l0.length : Int) := dT; obtain ⟨ad443, e443, hx443_0⟩ := Kd.at_int HR0.out 5 p443 q443; obtain rfl : ad437 = ad443 := (by injection e443); (try simp only [show (5 : Int).toNat = 5 from rfl, Nat.reduceMul, Nat.reduceEqDiff, Go.Addr.add, ↓reduceIte] at hx443_0); have qi443 : (5 < l0.length) = True := eq_true (by omega); (try rw [show ((5 : Int)).toNat = 5 from rfl] at hx443_0); replace p443 := eq_true p443; replace q443 := eq_true q443) | (go_at_call 101; (with_reducible refine (hI_.calls k (rd l0 5) t444 _ A10.out).mono ?_); rintro e w' ⟨rfl, ⟨nd, rfl⟩⟩; (try first | ((with_reducible refine ⟨?_, _, World.drewN_drewN _ _ _⟩); rfl) | ((with_reducible refine ⟨?_, _, Eq.trans (World.drewN_drewN _ _ _) (congrArg (World.drewN _) (Nat.add_assoc _ _ _))⟩); rfl)))); try go_quiet (first | (go_at_call 101; (with_reducible refine (hI_.calls k (rd l0 2) t438 _ A4.out).mono ?_); rintro e w' ⟨rfl, ⟨nd, rfl⟩⟩; (try first | ((with_reducible refine ⟨?_, _, World.drewN_drewN _ _ _⟩); rfl) | ((with_reducible refine ⟨?_, _, Eq.trans (World.drewN_drewN _ _ _) (congrArg (World.drewN _) (Nat.add_assoc _ _ _))⟩); rfl)); have p439 : 0 ≤ (3 : Int) := (by omega); have q439 : 3 < (l0.length : Int) := dT; obtain ⟨ad439, e439, hx439_0⟩ := Kd.at_int HR0.out 3 p439 q439; obtain rfl : ad437 = ad439 := (by injection e439); (try simp only [show (3 : Int).toNat = 3 from rfl, Nat.reduceMul, Nat.reduceEqDiff, Go.Addr.add, ↓reduceIte] at hx439_0); have qi439 : (3 < l0.length) = True := eq_true (by omega); (try rw [show ((3 : Int)).toNat = 3 from rfl] at hx439_0); replace p439 := eq_true p439; replace q439 := eq_true q439) | (go_at_call 101; (with_reducible refine (hI_.calls k (rd l0 3) t440 _ A6.out).mono ?_); rintro e w' ⟨rfl, ⟨nd, rfl⟩⟩; (try first | ((with_reducible refine ⟨?_, _, World.drewN_drewN _ _ _⟩); rfl) | ((with_reducible refine ⟨?_, _, Eq.trans (World.drewN_drewN _ _ _) (congrArg (World.drewN _) (Nat.add_assoc _ _ _))⟩); rfl)); have p441 : 0 ≤ (4 : Int) := (by omega); have q441 : 4 < (l0.length : Int) := dT; obtain ⟨ad441, e441, hx441_0⟩ := Kd.at_int HR0.out 4 p441 q441; obtain rfl : ad437 = ad441 := (by injection e441); (try simp only [show (4 : Int).toNat = 4 from rfl, Nat.reduceMul, Nat.reduceEqDiff, Go.Addr.add, ↓reduceIte] at hx441_0); have qi441 : (4 < l0.length) = True := eq_true (by omega); (try rw [show ((4 : Int)).toNat = 4 from rfl] at hx441_0); replace p441 := eq_true p441; replace q441 := eq_true q441) | (go_at_call 101; (with_reducible refine (hI_.calls k (rd l0 4) t442 _ A8.out).mono ?_); rintro e w' ⟨rfl, ⟨nd, rfl⟩⟩; (try first | ((with_reducible refine ⟨?_, _, World.drewN_drewN _ _ _⟩); rfl) | ((with_reducible refine ⟨?_, _, Eq.trans (World.drewN_drewN _ _ _) (congrArg (World.drewN _) (Nat.add_assoc _ _ _))⟩); rfl)); have p443 : 0 ≤ (5 : Int) := (by omega); have q443 : 5 < (l0.length : Int) := dT; obtain ⟨ad443, e443, hx443_0⟩ := Kd.at_int HR0.out 5 p443 q443; obtain rfl : ad437 = ad443 := (by injection e443); (try simp only [show (5 : Int).toNat = 5 from rfl, Nat.reduceMul, Nat.reduceEqDiff, Go.Addr.add, ↓reduceIte] at hx443_0); have qi443 : (5 < l0.length) = True := eq_true (by omega); (try rw [show ((5 : Int)).toNat = 5 from rfl] at hx443_0); replace p443 := eq_true p443; replace q443 := eq_true q443) | (go_at_call 101; (with_reducible refine (hI_.calls k (rd l0 5) t444 _ A10.out).mono ?_); rintro e w' ⟨rfl, ⟨nd, rfl⟩⟩; (try first | ((with_reducible refine ⟨?_, _, World.drewN_drewN _ _ _⟩); rfl) | ((with_reducible refine ⟨?_, _, Eq.trans (World.drewN_drewN _ _ _) (congrArg (World.drewN _) (Nat.add_assoc _ _ _))⟩); rfl)))))
      go_ret2
      exact ⟨by first | rfl | (simp; done) | (simp [nil_ne_, nil_eq_]; done) | (simp [*]; done), zD⟩
     rw [if_neg c14] at H
     have c14b0 := beq_eq_false_iff_ne.mpr c14
     have c14b1 := bne_iff_ne.mpr c14
     simp only [Option.some.injEq, Prod.mk.injEq] at H
     obtain ⟨rfl, rfl⟩ := H
     have p437 : 0 ≤ (2 : Int) := (by omega)
     have q437 : 2 < (l0.length : Int) := dT
     obtain ⟨ad437, e437, hx437_0⟩ := Kd.at_int HR0.out 2 p437 q437
     cases e437
     (try simp only [show (2 : Int).toNat = 2 from rfl, Nat.reduceMul, Nat.reduceEqDiff, Go.Addr.add, ↓reduceIte] at hx437_0)
     have qi437 : (2 < l0.length) = True := eq_true (by omega)
     (try rw [show ((2 : Int)).toNat = 2 from rfl] at hx437_0)
     replace p437 := eq_true p437
     replace q437 := eq_true q437
     go_enter Tryz.func93, Tryz.ntmps93
     iterate 3 (try go_wp2_with (first | (go_at_call 101; (with_reducible refine (hI_.calls k (rd l0 2) t438 _ A4.out).mono ?_); rintro e w' ⟨rfl, ⟨nd, rfl⟩⟩; (try first | ((with_reducible refine ⟨?_, _, World.drewN_drewN _ _ _⟩); rfl) | ((with_reducible refine ⟨?_, _, Eq.trans (World.drewN_drewN _ _ _) (congrArg (World.drewN _) (Nat.add_assoc _ _ _))⟩); rfl)); have p439 : 0 ≤ (3 : Int) := (by omega); have q439 : 3 < (l0.length : Int) := dT; obtain ⟨ad439, e439, hx439_0⟩ := Kd.at_int HR0.out 3 p439 q439; obtain rfl : ad437 = ad439 := (by injection e439); (try simp only [show (3 : Int).toNat = 3 from rfl, Nat.reduceMul, Nat.reduceEqDiff, Go.Addr.add, ↓reduceIte] at hx439_0); have qi439 : (3 < l0.length) = True := eq_true (by omega); (try rw [show ((3 : Int)).toNat = 3 from rfl] at hx439_0); replace p439 := eq_true p439; replace q439 := eq_true q439) | (go_at_call 101; (with_reducible refine (hI_.calls k (rd l0 3) t440 _ A6.out).mono ?_); rintro e w' ⟨rfl, ⟨nd, rfl⟩⟩; (try first | ((with_reducible refine ⟨?_, _, World.drewN_drewN _ _ _⟩); rfl) | ((with_reducible refine ⟨?_, _, Eq.trans (World.drewN_drewN _ _ _) (congrArg (World.drewN _) (Nat.add_assoc _ _ _))⟩); rfl)); have p441 : 0 ≤ (4 : Int) := (by omega); have q441 : 4 < (l0.length : Int) := dT; obtain ⟨ad441, e441, hx441_0⟩ := Kd.at_int HR0.out 4 p441 q441; obtain rfl : ad437 = ad441 := (by injection e441); (try simp only [show (4 : Int).toNat = 4 from rfl, Nat.reduceMul, Nat.reduceEqDiff, Go.Addr.add, ↓reduceIte] at hx441_0); have qi441 : (4 < l0.length) = True := eq_true (by omega); (try rw [show ((4 : Int)).toNat = 4 from rfl] at hx441_0); replace p441 := eq_true p441; replace q441 := eq_true q441) | (go_at_call 101; (with_reducible refine (hI_.calls k (rd l0 4) t442 _ A8.out).mono ?_); rintro e w' ⟨rfl, ⟨nd, rfl⟩⟩; (try first | ((with_reducible refine ⟨?_, _, World.drewN_drewN _ _ _⟩); rfl) | ((with_reducible refine ⟨?_, _, Eq.trans (World.drewN_drewN _ _ _) (congrArg (World.drewN _) (Nat.add_assoc _ _ _))⟩); rfl)); have p443 : 0 ≤ (5 : Int) := (by omega); have q443 : 5 < (l0.length : Int) := dT; obtain ⟨ad443, e443, hx443_0⟩ := Kd.at_int HR0.out 5 p443 q443; obtain rfl : ad437 = ad443 := (by injection e443); (try simp only [show (5 : Int).toNat = 5 from rfl, Nat.reduceMul, Nat.reduceEqDiff, Go.Addr.add, ↓reduceIte] at hx443_0); have qi443 : (5 < l0.length) = True := eq_true (by omega); (try rw [show ((5 : Int)).toNat = 5 from rfl] at hx443_0); replace p443 := eq_true p443; replace q443 := eq_true q443) | (go_at_call 101; (with_reducible refine (hI_.calls k (rd l0 5) t444 _ A10.out).mono ?_); rintro e w' ⟨rfl, ⟨nd, rfl⟩⟩; (try first | ((with_reducible refine ⟨?_, _, World.drewN_drewN _ _ _⟩); rfl) | ((with_reducible refine ⟨?_, _, Eq.trans (World.drewN_drewN _ _ _) (congrArg (World.drewN _) (Nat.add_assoc _ _ _))⟩); rfl)))); try go_quiet (first | (go_at_call 101; (with_reducible refine (hI_.calls k (rd l0 2) t438 _ A4.out).mono ?_); rintro e w' ⟨rfl, ⟨nd, rfl⟩⟩; (try first | ((with_reducible refine ⟨?_, _, World.drewN_drewN _ _ _⟩); rfl) | ((with_reducible refine ⟨?_, _, Eq.trans (World.drewN_drewN _ _ _) (congrArg (World.drewN _) (Nat.add_assoc _ _ _))⟩); rfl)); have p439 : 0 ≤ (3 : Int) := (by omega); have q439 : 3 < (l0.length : Int) := dT; obtain ⟨ad439, e439, hx439_0⟩ := Kd.at_int HR0.out 3 p439 q439; obtain rfl : ad437 = ad439 := (by injection e439); (try simp only [show (3 : Int).toNat = 3 from rfl, Nat.reduceMul, Nat.reduceEqDiff, Go.Addr.add, ↓reduceIte] at hx439_0); have qi439 : (3 < l0.length) = True := eq_true (by omega); (try rw [show ((3 : Int)).toNat = 3 from rfl] at hx439_0); replace p439 := eq_true p439; replace q439 := eq_true q439) | (go_at_call 101; (with_reducible refine (hI_.calls k (rd l0 3) t440 _ A6.out).mono ?_); rintro e w' ⟨rfl, ⟨nd, rfl⟩⟩; (try first | ((with_reducible refine ⟨?_, _, World.drewN_drewN _ _ _⟩); rfl) | ((with_reducible refine ⟨?_, _, Eq.trans (World.drewN_drewN _ _ _) (congrArg (World.drewN _) (Nat.add_assoc _ _ _))⟩); rfl)); have p441 : 0 ≤ (4 : Int) := (by omega); have q441 : 4 < (l0.length : Int) := dT; obtain ⟨ad441, e441, hx441_0⟩ := Kd.at_int HR0.out 4 p441 q441; obtain rfl : ad437 = ad441 := (by injection e441); (try simp only [show (4 : Int).toNat = 4 from rfl, Nat.reduceMul, Nat.reduceEqDiff, Go.Addr.add, ↓reduceIte] at hx441_0); have qi441 : (4 < l0.length) = True := eq_true (by omega); (try rw [show ((4 : Int)).toNat = 4 from rfl] at hx441_0); replace p441 := eq_true p441; replace q441 := eq_true q441) | (go_at_call 101; (with_reducible refine (hI_.calls k (rd l0 4) t442 _ A8.out).mono ?_); rintro e w' ⟨rfl, ⟨nd, rfl⟩⟩; (try first | ((with_reducible refine ⟨?_, _, World.drewN_drewN _ _ _⟩); rfl) | ((with_reducible refine ⟨?_, _, Eq.trans (World.drewN_drewN _ _ _) (congrArg (World.drewN _) (Nat.add_assoc _ _ _))⟩); rfl)); have p443 : 0 ≤ (5 : Int) := (by omega); have q443 : 5 < (l0.length : Int) := dT; obtain ⟨ad443, e443, hx443_0⟩ := Kd.at_int HR0.out 5 p443 q443; obtain rfl : ad437 = ad443 := (by injection e443); (try simp only [show (5 : Int).toNat = 5 from rfl, Nat.reduceMul, Nat.reduceEqDiff, Go.Addr.add, ↓reduceIte] at hx443_0); have qi443 : (5 < l0.length) = True := eq_true (by omega); (try rw [show ((5 : Int)).toNat = 5 from rfl] at hx443_0); replace p443 := eq_true p443; replace q443 := eq_true q443) | (go_at_call 101; (with_reducible refine (hI_.calls k (rd l0 5) t444 _ A10.out).mono ?_); rintro e w' ⟨rfl, ⟨nd, rfl⟩⟩; (try first | ((with_reducible refine ⟨?_, _, World.drewN_drewN _ _ _⟩); rfl) | ((with_reducible refine ⟨?_, _, Eq.trans (World.drewN_drewN _ _ _) (congrArg (World.drewN _) (Nat.add_assoc _ _ _))⟩); rfl)))))
     go_ret2
     exact ⟨by first | rfl | (simp; done) | (simp [nil_ne_, nil_eq_]; done) | (simp [*]; done), zD⟩
    rw [if_neg c9] at H
    exact absurd H (by simp)
   rw [if_neg c7] at H
   exact absurd H (by simp)
  rw [if_neg c5] at H
  exact absurd H (by simp)
 rw [if_neg c3] at H
 exact absurd H (by simp)
def iUTFER_.f (a0 : Int) : Option (Bool) := if 55296 ≤ a0 then (some (decide (a0 ≤ 57343))) else (some false)
set_option maxHeartbeats 8000000 in
set_option maxRecDepth 100000 in
theorem iUTFER_.calls (a0 : Int) (r : Bool) (w : World) (h : iUTFER_.f a0 = some r) :
    Calls Tryz.prog 94 #[.int .i32 a0] w fun e w' => e = .returned (.bool r) ∧ Drawn0 w w' := by
 have H : (if 55296 ≤ a0 then (some (decide (a0 ≤ 57343))) else (some false)) = some r := h
 clear h
 by_cases c2 : 55296 ≤ a0
 ·
  rw [if_pos c2] at H
  have c2b0 := decide_eq_true c2
  clear c2
  obtain rfl := Option.some.inj H
  go_enter Tryz.func94, Tryz.ntmps94
  go_wp2
  go_ret
  exact ⟨by first | rfl | (simp; done) | (simp [nil_ne_, nil_eq_]; done) | (simp [*]; done), zD⟩
 rw [if_neg c2] at H
 have c2b0 := decide_eq_false c2
 clear c2
 obtain rfl := Option.some.inj H
 go_enter Tryz.func94, Tryz.ntmps94
 go_wp2
 go_ret
 exact ⟨by first | rfl | (simp; done) | (simp [nil_ne_, nil_eq_]; done) | (simp [*]; done), zD⟩
def cUTFS_.f (a0 : Int) (a1 : Int) : Option (Int) := some (wrap32 ((wrap32 (65536 + (wrap32 ((wrap32 (a0 - 55296)) * 1024)))) + (wrap32 (a1 - 56320))))
set_option maxHeartbeats 8000000 in
set_option maxRecDepth 100000 in
theorem cUTFS_.calls (a0 : Int) (a1 : Int) (r : Int) (w : World) (h : cUTFS_.f a0 a1 = some r) :
    Calls Tryz.prog 95 #[.int .i32 a0, .int .i32 a1] w fun e w' => e = .returned (.int .i32 r) ∧ Drawn0 w w' := by
 have H : (some (wrap32 ((wrap32 (65536 + (wrap32 ((wrap32 (a0 - 55296)) * 1024)))) + (wrap32 (a1 - 56320))))) = some r := h
 clear h
 obtain rfl := Option.some.inj H
 go_enter Tryz.func95, Tryz.ntmps95
 go_wp2
 go_ret
 exact ⟨by first | rfl | (simp; done) | (simp [nil_ne_, nil_eq_]; done) | (simp [*]; done), zD⟩
def dUE_.j0 : Nat → List Int → Int → Bool → Option (Int × Int)
  | 0, _, _, _ => none
  | k + 1, x0, x4, x35 => if x35 = true then (some (65533, 6)) else (if 6 ≤ (x0.length : Int) then ((dSUE_.f k (x0.drop 6)).bind fun bt451 => (if bt451.2 = true then (if bt451.1 < 56320 then (some (65533, 6)) else (if bt451.1 > 57343 then (some (65533, 6)) else ((cUTFS_.f x4 bt451.1).bind fun t453 => (some (t453, 12))))) else (some (65533, (-1))))) else (none))
def dUE_.f (k : Nat) (l0 : List Int) : Option (Int × Int) := (dSUE_.f k l0).bind fun bt445 => (if bt445.2 = true then ((iUTFER_.f bt445.1).bind fun t447 => (if t447 = true then (if bt445.1 ≥ 56320 then (some (65533, 6)) else (if (l0.length : Int) < 8 then (dUE_.j0 k l0 bt445.1 true) else (if 6 < (l0.length : Int) then (if (rd l0 6) = 92 then (if 7 < (l0.length : Int) then (dUE_.j0 k l0 bt445.1 ((rd l0 7) != 117)) else (none)) else (dUE_.j0 k l0 bt445.1 true)) else (none)))) else (some (bt445.1, 6)))) else (some (65533, (-1))))
set_option maxHeartbeats 8000000 in
set_option maxRecDepth 100000 in
theorem dUE_.calls (k : Nat) (A0 : Option Addr) (c0 : Nat) (l0 : List Int) (r1 : Int) (r2 : Int) (w : World) (hr0 : Kd.C (Kd.int .u8) w A0 l0.length l0) (hc0 : l0.length ≤ c0) (h : dUE_.f k l0 = some (r1, r2)) :
    Calls Tryz.prog 86 #[.slice A0 l0.length c0] w fun e w' => e = .returned (.tuple #[.int .i32 r1, .int .i64 r2]) ∧ Drawn0 w w' := by
 have HR0 := Aside0.mk hr0
 have HC0 := Aside0.mk hc0
 clear hr0 hc0
 have H : ((dSUE_.f k l0).bind fun bt445 => (if bt445.2 = true then ((iUTFER_.f bt445.1).bind fun t447 => (if t447 = true then (if bt445.1 ≥ 56320 then (some (65533, 6)) else (if (l0.length : Int) < 8 then (dUE_.j0 k l0 bt445.1 true) else (if 6 < (l0.length : Int) then (if (rd l0 6) = 92 then (if 7 < (l0.length : Int) then (dUE_.j0 k l0 bt445.1 ((rd l0 7) != 117)) else (none)) else (dUE_.j0 k l0 bt445.1 true)) else (none)))) else (some (bt445.1, 6)))) else (some (65533, (-1))))) = some (r1, r2) := h
 clear h
 replace H := Option.bind_eq_some_iff.mp H
 obtain ⟨⟨t445, t446⟩, A20, H⟩ := H
 try dsimp only at H
 have A2 := Aside0.mk A20
 clear A20
 by_cases c3 : t446 = true
 subst c3
 rw [if_pos rfl] at H
 replace H := Option.bind_eq_some_iff.mp H
 obtain ⟨t447, A40, H⟩ := H
 try dsimp only at H
 have A4 := Aside0.mk A40
 clear A40
 by_cases c5 : t447 = true
 subst c5
 rw [if_pos rfl] at H
 by_cases c6 : t445 ≥ 56320
 rw [if_pos c6] at H
 have c6b0 := decide_eq_true c6
 clear c6
 simp only [Option.some.injEq, Prod.mk.injEq] at H
 obtain ⟨rfl, rfl⟩ := H
 go_enter Tryz.func86, Tryz.ntmps86
 rotate_left
 ·
  rw [if_neg c6] at H
  have c6b0 := decide_eq_false c6
  clear c6
  have HC7 := Aside0.mk H
  clear H
  go_enter Tryz.func86, Tryz.ntmps86
  go_upto_region 8 with (first | ((with_reducible refine gate_callee (f := 93) rfl ?_); refine goesL_ (some 10) rfl rfl Tryz.func93 (by kernel_rfl) rfl #[.slice A0 l0.length c0] rfl zM ?_; (with_reducible refine (dSUE_.calls k _ _ l0 t445 true _ ?side1 ?side2 A2.out).mono ?_); (case side1 => exact zkc HR0.out); (case side2 => exact HC0.out); rintro e w' ⟨rfl, ⟨nd, rfl⟩⟩; refine ⟨_, rfl, ?_⟩) | ((with_reducible refine gate_callee (f := 94) rfl ?_); refine goesL_ (some 16) rfl rfl Tryz.func94 (by kernel_rfl) rfl #[.int .i32 t445] rfl zM ?_; (with_reducible refine (iUTFER_.calls t445 true _ A4.out).mono ?_); rintro e w' ⟨rfl, ⟨nd, rfl⟩⟩; refine ⟨_, rfl, ?_⟩))
  (try simp only [Act.put, List.setIfInBounds_toArray, List.set_cons_zero, List.set_cons_succ])
  go_cut [35] (fun v35 wc => ∃ (kq : Nat) (x35_6 : Bool), v35 = .bool x35_6 ∧ Aside0 (dUE_.j0 kq l0 t445 x35_6 = some (r1, r2)) ∧ Aside0 (kq ≤ k) ∧ Drawn0 w wc)
  case first =>
   have H := HC7.out
   clear HC7
   by_cases c8 : (l0.length : Int) < 8
   ·
    rw [if_pos c8] at H
    have c8b0 := decide_eq_true c8
    have c8b1 : decide (l0.length < 8) = true := decide_eq_true (by omega)
    clear c8
    (first | rw [c8b0] | (simp only [i64_w, i32_w]; rw [c8b0]) | rw [c8b1] | skip)
    have H' := Aside0.mk H
    clear H
    go_wp2
    go_meet
    case rel => exact ⟨_, (true), zE, H', ⟨by first | omega | exact Nat.le_refl _⟩, zD⟩
   rw [if_neg c8] at H
   have c8b0 := decide_eq_false c8
   have c8b1 : decide (l0.length < 8) = false := decide_eq_false (by omega)
   clear c8
   (first | rw [c8b0] | (simp only [i64_w, i32_w]; rw [c8b0]) | rw [c8b1] | skip)
   by_cases c9 : 6 < (l0.length : Int)
   ·
    rw [if_pos c9] at H
    have c9b0 := decide_eq_true c9
    have c9b1 : decide (6 < l0.length) = true := decide_eq_true (by omega)
    clear c9
    by_cases c10 : (rd l0 6) = 92
    ·
     rw [if_pos c10] at H
     have c10b0 := beq_iff_eq.mpr c10
     have c10b1 := bne_eq_false_iff_eq.mpr c10
     clear c10
     by_cases c11 : 7 < (l0.length : Int)
     ·
      rw [if_pos c11] at H
      have c11b0 := decide_eq_true c11
      have c11b1 : decide (7 < l0.length) = true := decide_eq_true (by omega)
      clear c11
      have H' := Aside0.mk H
      clear H
      have p448 : 0 ≤ (6 : Int) := (by omega)
      have q448 : 6 < (l0.length : Int) := dT
      obtain ⟨ad448, e448, hx448_0⟩ := Kd.at_int HR0.out 6 p448 q448
      cases e448
      (try simp only [show (6 : Int).toNat = 6 from rfl, Nat.reduceMul, Nat.reduceEqDiff, Go.Addr.add, ↓reduceIte] at hx448_0)
      have qi448 : (6 < l0.length) = True := eq_true (by omega)
      (try rw [show ((6 : Int)).toNat = 6 from rfl] at hx448_0)
      replace p448 := eq_true p448
      replace q448 := eq_true q448
      have p449 : 0 ≤ (7 : Int) := (by omega)
      have q449 : 7 < (l0.length : Int) := dT
      obtain ⟨ad449, e449, hx449_0⟩ := Kd.at_int HR0.out 7 p449 q449
      obtain rfl : ad448 = ad449 := (by injection e449)
      (try simp only [show (7 : Int).toNat = 7 from rfl, Nat.reduceMul, Nat.reduceEqDiff, Go.Addr.add, ↓reduceIte] at hx449_0)
      have qi449 : (7 < l0.length) = True := eq_true (by omega)
      (try rw [show ((7 : Int)).toNat = 7 from rfl] at hx449_0)
      replace p449 := eq_true p449
      replace q449 := eq_true q449
      go_wp2
      go_meet
      case rel => exact ⟨_, (((rd l0 7) != 117)), zE, H', ⟨by first | omega | exact Nat.le_refl _⟩, zD⟩
     rw [if_neg c11] at H
     exact absurd H (by simp)
    rw [if_neg c10] at H
    have c10b0 := beq_eq_false_iff_ne.mpr c10
    have c10b1 := bne_iff_ne.mpr c10
    have H' := Aside0.mk H
    clear H
    have p448 : 0 ≤ (6 : Int) := (by omega)
    have q448 : 6 < (l0.length : Int) := dT
    obtain ⟨ad448, e448, hx448_0⟩ := Kd.at_int HR0.out 6 p448 q448
    cases e448
    (try simp only [show (6 : Int).toNat = 6 from rfl, Nat.reduceMul, Nat.reduceEqDiff, Go.Addr.add, ↓reduceIte] at hx448_0)
    have qi448 : (6 < l0.length) = True := eq_true (by omega)
    (try rw [show ((6 : Int)).toNat = 6 from rfl] at hx448_0)
    replace p448 := eq_true p448
    replace q448 := eq_true q448
    go_wp2
    go_meet
    case rel => exact ⟨_, (true), zE, H', ⟨by first | omega | exact Nat.le_refl _⟩, zD⟩
   rw [if_neg c9] at H
   exact absurd H (by simp)
  clear HC7
  (try clear c3); (try clear c5); (try clear c6b0)
  obtain ⟨kq, x35_6, rfl, HA, HJ6, ⟨mc6, rfl⟩⟩ := hcut
  rcases kq with _ | kj6
  · exact absurd HA.out (by simp [dUE_.j0])
  have H := HA.out
  clear HA
  simp only [dUE_.j0] at H
  by_cases c12 : x35_6 = true
  ·
   subst c12
   rw [if_pos rfl] at H
   simp only [Option.some.injEq, Prod.mk.injEq] at H
   obtain ⟨rfl, rfl⟩ := H
   go_wp2
   go_ret2
   exact ⟨by first | rfl | (simp; done) | (simp [nil_ne_, nil_eq_]; done) | (simp [*]; done), zD⟩
  replace c12 := Bool.eq_false_iff.mpr c12
  subst c12
  rw [if_neg Bool.false_ne_true] at H
  by_cases c13 : 6 ≤ (l0.length : Int)
  ·
   rw [if_pos c13] at H
   have c13b0 := eq_true c13
   have c13b1 := decide_eq_true c13
   clear c13
   replace H := Option.bind_eq_some_iff.mp H
   obtain ⟨⟨t451, t452⟩, A140, H⟩ := H
   try dsimp only at H
   have A14 := Aside0.mk A140
   clear A140
   by_cases c15 : t452 = true
   ·
    subst c15
    rw [if_pos rfl] at H
    by_cases c16 : t451 < 56320
    ·
     rw [if_pos c16] at H
     have c16b0 := decide_eq_true c16
     clear c16
     simp only [Option.some.injEq, Prod.mk.injEq] at H
     obtain ⟨rfl, rfl⟩ := H
     obtain ⟨i017, hi017, _, hsz17, _⟩ := info_parts info5
     obtain ⟨A17, hcut17, hA17, hC17⟩ := print_drop_of (P := Tryz.prog) (Value.int .u8) 0 51 5 .i64 Tryz.underlying51 hi017 hsz17 A0 c0 l0 6 (by omega) (dT) HC0.out
     have HR450 := Aside0.mk (Kd.C_of_reads (h1 := fun _ => rfl) (hA17 _ (Kd.reads_of_C HR0.out)))
     have HC450 := Aside0.mk hC17
     clear hA17 hC17 hi017 hsz17
     go_wp2_with (first | ((with_reducible refine gate_callee (f := 93) rfl ?_); refine goesL_ (some 39) rfl rfl Tryz.func93 (by kernel_rfl) rfl #[.slice A17 (l0.drop 6).length (c0 - 6)] rfl (by (try simp only [List.map_toArray, List.map_cons, List.map_nil]); first | done | (rw [show (l0.drop 6).length = (l0.length - 6) from List.length_drop] <;> rfl) | rfl | (simp only [List.length_drop, List.length_take]; rfl)) ?_; (with_reducible refine (dSUE_.calls kj6 _ _ (l0.drop 6) t451 true _ ?side1 ?side2 A14.out).mono ?_); (case side1 => exact zkc HR450.out); (case side2 => exact HC450.out); rintro e w' ⟨rfl, ⟨nd, rfl⟩⟩; refine ⟨_, rfl, ?_⟩))
     go_ret2
     exact ⟨by first | rfl | (simp; done) | (simp [nil_ne_, nil_eq_]; done) | (simp [*]; done), zD⟩
    rw [if_neg c16] at H
    have c16b0 := decide_eq_false c16
    clear c16
    by_cases c18 : t451 > 57343
    ·
     rw [if_pos c18] at H
     have c18b0 := decide_eq_true c18
     clear c18
     simp only [Option.some.injEq, Prod.mk.injEq] at H
     obtain ⟨rfl, rfl⟩ := H
     obtain ⟨i019, hi019, _, hsz19, _⟩ := info_parts info5
     obtain ⟨A19, hcut19, hA19, hC19⟩ := print_drop_of (P := Tryz.prog) (Value.int .u8) 0 51 5 .i64 Tryz.underlying51 hi019 hsz19 A0 c0 l0 6 (by omega) (dT) HC0.out
     have HR450 := Aside0.mk (Kd.C_of_reads (h1 := fun _ => rfl) (hA19 _ (Kd.reads_of_C HR0.out)))
     have HC450 := Aside0.mk hC19
     clear hA19 hC19 hi019 hsz19
     go_wp2_with (first | ((with_reducible refine gate_callee (f := 93) rfl ?_); refine goesL_ (some 39) rfl rfl Tryz.func93 (by kernel_rfl) rfl #[.slice A19 (l0.drop 6).length (c0 - 6)] rfl (by (try simp only [List.map_toArray, List.map_cons, List.map_nil]); first | done | (rw [show (l0.drop 6).length = (l0.length - 6) from List.length_drop] <;> rfl) | rfl | (simp only [List.length_drop, List.length_take]; rfl)) ?_; (with_reducible refine (dSUE_.calls kj6 _ _ (l0.drop 6) t451 true _ ?side1 ?side2 A14.out).mono ?_); (case side1 => exact zkc HR450.out); (case side2 => exact HC450.out); rintro e w' ⟨rfl, ⟨nd, rfl⟩⟩; refine ⟨_, rfl, ?_⟩))
     go_ret2
     exact ⟨by first | rfl | (simp; done) | (simp [nil_ne_, nil_eq_]; done) | (simp [*]; done), zD⟩
    rw [if_neg c18] at H
    have c18b0 := decide_eq_false c18
    clear c18
    replace H := Option.bind_eq_some_iff.mp H
    obtain ⟨t453, A200, H⟩ := H
    try dsimp only at H
    have A20 := Aside0.mk A200
    clear A200
    simp only [Option.some.injEq, Prod.mk.injEq] at H
    obtain ⟨rfl, rfl⟩ := H
    obtain ⟨i021, hi021, _, hsz21, _⟩ := info_parts info5
    obtain ⟨A21, hcut21, hA21, hC21⟩ := print_drop_of (P := Tryz.prog) (Value.int .u8) 0 51 5 .i64 Tryz.underlying51 hi021 hsz21 A0 c0 l0 6 (by omega) (dT) HC0.out
    have HR450 := Aside0.mk (Kd.C_of_reads (h1 := fun _ => rfl) (hA21 _ (Kd.reads_of_C HR0.out)))
    have HC450 := Aside0.mk hC21
    clear hA21 hC21 hi021 hsz21
    go_wp2_with (first | ((with_reducible refine gate_callee (f := 93) rfl ?_); refine goesL_ (some 39) rfl rfl Tryz.func93 (by kernel_rfl) rfl #[.slice A21 (l0.drop 6).length (c0 - 6)] rfl (by (try simp only [List.map_toArray, List.map_cons, List.map_nil]); first | done | (rw [show (l0.drop 6).length = (l0.length - 6) from List.length_drop] <;> rfl) | rfl | (simp only [List.length_drop, List.length_take]; rfl)) ?_; (with_reducible refine (dSUE_.calls kj6 _ _ (l0.drop 6) t451 true _ ?side1 ?side2 A14.out).mono ?_); (case side1 => exact zkc HR450.out); (case side2 => exact HC450.out); rintro e w' ⟨rfl, ⟨nd, rfl⟩⟩; refine ⟨_, rfl, ?_⟩) | ((with_reducible refine gate_callee (f := 95) rfl ?_); refine goesL_ (some 52) rfl rfl Tryz.func95 (by kernel_rfl) rfl #[.int .i32 t445, .int .i32 t451] rfl zM ?_; (with_reducible refine (cUTFS_.calls t445 t451 t453 _ A20.out).mono ?_); rintro e w' ⟨rfl, ⟨nd, rfl⟩⟩; refine ⟨_, rfl, ?_⟩))
    go_ret2
    exact ⟨by first | rfl | (simp; done) | (simp [nil_ne_, nil_eq_]; done) | (simp [*]; done), zD⟩
   replace c15 := Bool.eq_false_iff.mpr c15
   subst c15
   rw [if_neg Bool.false_ne_true] at H
   simp only [Option.some.injEq, Prod.mk.injEq] at H
   obtain ⟨rfl, rfl⟩ := H
   obtain ⟨i022, hi022, _, hsz22, _⟩ := info_parts info5
   obtain ⟨A22, hcut22, hA22, hC22⟩ := print_drop_of (P := Tryz.prog) (Value.int .u8) 0 51 5 .i64 Tryz.underlying51 hi022 hsz22 A0 c0 l0 6 (by omega) (dT) HC0.out
   have HR450 := Aside0.mk (Kd.C_of_reads (h1 := fun _ => rfl) (hA22 _ (Kd.reads_of_C HR0.out)))
   have HC450 := Aside0.mk hC22
   clear hA22 hC22 hi022 hsz22
   go_wp2_with (first | ((with_reducible refine gate_callee (f := 93) rfl ?_); refine goesL_ (some 39) rfl rfl Tryz.func93 (by kernel_rfl) rfl #[.slice A22 (l0.drop 6).length (c0 - 6)] rfl (by (try simp only [List.map_toArray, List.map_cons, List.map_nil]); first | done | (rw [show (l0.drop 6).length = (l0.length - 6) from List.length_drop] <;> rfl) | rfl | (simp only [List.length_drop, List.length_take]; rfl)) ?_; (with_reducible refine (dSUE_.calls kj6 _ _ (l0.drop 6) t451 false _ ?side1 ?side2 A14.out).mono ?_); (case side1 => exact zkc HR450.out); (case side2 => exact HC450.out); rintro e w' ⟨rfl, ⟨nd, rfl⟩⟩; refine ⟨_, rfl, ?_⟩))
   go_ret2
   exact ⟨by first | rfl | (simp; done) | (simp [nil_ne_, nil_eq_]; done) | (simp [*]; done), zD⟩
  rw [if_neg c13] at H
  exact absurd H (by simp)
 replace c5 := Bool.eq_false_iff.mpr c5
 subst c5
 rw [if_neg Bool.false_ne_true] at H
 simp only [Option.some.injEq, Prod.mk.injEq] at H
 obtain ⟨rfl, rfl⟩ := H
 go_enter Tryz.func86, Tryz.ntmps86
 rotate_left
 replace c3 := Bool.eq_false_iff.mpr c3
 subst c3
 rw [if_neg Bool.false_ne_true] at H
 simp only [Option.some.injEq, Prod.mk.injEq] at H
 obtain ⟨rfl, rfl⟩ := H
 go_enter Tryz.func86, Tryz.ntmps86
 rotate_left
 all_goals go_wp2_with (first | ((with_reducible refine gate_callee (f := 93) rfl ?_); refine goesL_ (some 10) rfl rfl Tryz.func93 (by kernel_rfl) rfl #[.slice A0 l0.length c0] rfl zM ?_; (with_reducible refine (dSUE_.calls k _ _ l0 t445 true _ ?side1 ?side2 A2.out).mono ?_); (case side1 => exact zkc HR0.out); (case side2 => exact HC0.out); rintro e w' ⟨rfl, ⟨nd, rfl⟩⟩; refine ⟨_, rfl, ?_⟩) | ((with_reducible refine gate_callee (f := 94) rfl ?_); refine goesL_ (some 16) rfl rfl Tryz.func94 (by kernel_rfl) rfl #[.int .i32 t445] rfl zM ?_; (with_reducible refine (iUTFER_.calls t445 true _ A4.out).mono ?_); rintro e w' ⟨rfl, ⟨nd, rfl⟩⟩; refine ⟨_, rfl, ?_⟩) | ((with_reducible refine gate_callee (f := 94) rfl ?_); refine goesL_ (some 16) rfl rfl Tryz.func94 (by kernel_rfl) rfl #[.int .i32 t445] rfl zM ?_; (with_reducible refine (iUTFER_.calls t445 false _ A4.out).mono ?_); rintro e w' ⟨rfl, ⟨nd, rfl⟩⟩; refine ⟨_, rfl, ?_⟩) | ((with_reducible refine gate_callee (f := 93) rfl ?_); refine goesL_ (some 10) rfl rfl Tryz.func93 (by kernel_rfl) rfl #[.slice A0 l0.length c0] rfl zM ?_; (with_reducible refine (dSUE_.calls k _ _ l0 t445 false _ ?side1 ?side2 A2.out).mono ?_); (case side1 => exact zkc HR0.out); (case side2 => exact HC0.out); rintro e w' ⟨rfl, ⟨nd, rfl⟩⟩; refine ⟨_, rfl, ?_⟩))
 ·
  go_ret2
  exact ⟨by first | rfl | (simp; done) | (simp [nil_ne_, nil_eq_]; done) | (simp [*]; done), zD⟩
 ·
  go_ret2
  exact ⟨by first | rfl | (simp; done) | (simp [nil_ne_, nil_eq_]; done) | (simp [*]; done), zD⟩
 ·
  go_ret2
  exact ⟨by first | rfl | (simp; done) | (simp [nil_ne_, nil_eq_]; done) | (simp [*]; done), zD⟩
end Go.Proofs.YtpdohioobbfncaaGreatDoor.PFnJrEach