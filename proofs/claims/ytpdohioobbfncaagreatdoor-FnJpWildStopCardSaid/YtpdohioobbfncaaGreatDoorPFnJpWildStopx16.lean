/- what the Go functions that the law FnJpWildStop reaches compute, each as a plain function, with the proof that the Go code computes just that; no condition beside those that each theorem states. -/
import Derived.Test.YtpdohioobbfncaaGreatDoorPFnJpWildStopx0
namespace Go.Proofs.YtpdohioobbfncaaGreatDoor.PFnJpWildStop
open Go.RowKit Go.Proofs.YtpdohioobbfncaaGreatDoorW.PrintWords Go.Proofs.YtpdohioobbfncaaGreatDoorW.PrintLast Go.Proofs.YtpdohioobbfncaaGreatDoorW.PrintMore
set_option linter.unusedVariables false
set_option linter.unusedSimpArgs false
def tE_.l0 : Nat → List Int → List Int → Int → Int → Option (Int)
  | 0, _, _, _, _ => none
  | k + 1, x0, x5, x6, x7 => if x7 < x6 then (if 0 ≤ x7 then (if x7 < (x5.length : Int) then (if (rd x5 x7) = 32 then (some x7) else (if (rd x5 x7) = 10 then (some x7) else (if (rd x5 x7) = 13 then (some x7) else (if (rd x5 x7) = 9 then (some x7) else (if (rd x5 x7) = 44 then (some x7) else (if (rd x5 x7) = 125 then (some x7) else (if (rd x5 x7) = 93 then (some x7) else (tE_.l0 k x0 x5 x6 (wrap64 (x7 + 1)))))))))) else (none)) else (none)) else (some (x0.length : Int))
def tE_.f (k : Nat) (l0 : List Int) : Option (Int) := tE_.l0 k l0 l0 (l0.length : Int) 0
set_option maxHeartbeats 8000000 in
set_option maxRecDepth 100000 in
theorem tE_.calls (k : Nat) (A0 : Option Addr) (c0 : Nat) (l0 : List Int) (r : Int) (w : World) (hr0 : Kd.C (Kd.int .u8) w A0 l0.length l0) (hc0 : l0.length ≤ c0) (h : tE_.f k l0 = some r) :
    Calls Tryz.prog 83 #[.slice A0 l0.length c0] w fun e w' => e = .returned (.int .i64 r) ∧ Drawn0 w w' := by
 have HR0 := Aside0.mk hr0
 have HC0 := Aside0.mk hc0
 clear hr0 hc0
 have H : (tE_.l0 k l0 l0 (l0.length : Int) 0) = some r := h
 clear h
 have H' := Aside0.mk H
 clear H
 go_enter Tryz.func83, Tryz.ntmps83
 go_wp2
 try simp only [Act.put, List.setIfInBounds_toArray, List.set_cons_succ, List.set_cons_zero]
 go_loopg [7] k (fun kq v7 w' => ∃ (x7_1 : Int), v7 = .int .i64 x7_1 ∧ Aside0 (tE_.l0 kq l0 l0 (l0.length : Int) x7_1 = some r) ∧ Aside0 (kq ≤ k) ∧ Drawn0 w w')
 case atStart => exact ⟨(0), zE, H', ⟨Nat.le_refl _⟩, zD⟩
 case round =>
  clear H'
  obtain ⟨x7_1, rfl, HA, HK1, ⟨m1, rfl⟩⟩ := hrel
  rcases gk with _ | k1
  · exact absurd HA.out (by simp [tE_.l0])
  have H := HA.out
  clear HA
  simp only [tE_.l0] at H
  by_cases c2 : x7_1 < (l0.length : Int)
  ·
   rw [if_pos c2] at H
   have c2b0 := decide_eq_true c2
   clear c2
   by_cases c3 : 0 ≤ x7_1
   ·
    rw [if_pos c3] at H
    have c3b0 := decide_eq_true c3
    clear c3
    by_cases c4 : x7_1 < (l0.length : Int)
    ·
     rw [if_pos c4] at H
     have c4b0 := decide_eq_true c4
     clear c4
     by_cases c5 : (rd l0 x7_1) = 32
     ·
      rw [if_pos c5] at H
      have c5b0 := beq_iff_eq.mpr c5
      have c5b1 := bne_eq_false_iff_eq.mpr c5
      clear c5
      obtain rfl := Option.some.inj H
      have p453 : 0 ≤ (x7_1 : Int) := dT
      have q453 : x7_1 < (l0.length : Int) := dT
      obtain ⟨ad453, e453, hx453_0⟩ := Kd.at_int HR0.out x7_1 p453 q453
      cases e453
      replace p453 := eq_true p453
      replace q453 := eq_true q453
      go_wp2
      go_ret
      exact ⟨by first | rfl | (simp; done) | (simp [nil_ne_, nil_eq_]; done) | (simp [*]; done), zD⟩
     rw [if_neg c5] at H
     have c5b0 := beq_eq_false_iff_ne.mpr c5
     have c5b1 := bne_iff_ne.mpr c5
     by_cases c6 : (rd l0 x7_1) = 10
     ·
      rw [if_pos c6] at H
      have c6b0 := beq_iff_eq.mpr c6
      have c6b1 := bne_eq_false_iff_eq.mpr c6
      clear c6
      obtain rfl := Option.some.inj H
      have p453 : 0 ≤ (x7_1 : Int) := dT
      have q453 : x7_1 < (l0.length : Int) := dT
      obtain ⟨ad453, e453, hx453_0⟩ := Kd.at_int HR0.out x7_1 p453 q453
      cases e453
      replace p453 := eq_true p453
      replace q453 := eq_true q453
      go_wp2
      go_ret
      exact ⟨by first | rfl | (simp; done) | (simp [nil_ne_, nil_eq_]; done) | (simp [*]; done), zD⟩
     rw [if_neg c6] at H
     have c6b0 := beq_eq_false_iff_ne.mpr c6
     have c6b1 := bne_iff_ne.mpr c6
     by_cases c7 : (rd l0 x7_1) = 13
     ·
      rw [if_pos c7] at H
      have c7b0 := beq_iff_eq.mpr c7
      have c7b1 := bne_eq_false_iff_eq.mpr c7
      clear c7
      obtain rfl := Option.some.inj H
      have p453 : 0 ≤ (x7_1 : Int) := dT
      have q453 : x7_1 < (l0.length : Int) := dT
      obtain ⟨ad453, e453, hx453_0⟩ := Kd.at_int HR0.out x7_1 p453 q453
      cases e453
      replace p453 := eq_true p453
      replace q453 := eq_true q453
      go_wp2
      go_ret
      exact ⟨by first | rfl | (simp; done) | (simp [nil_ne_, nil_eq_]; done) | (simp [*]; done), zD⟩
     rw [if_neg c7] at H
     have c7b0 := beq_eq_false_iff_ne.mpr c7
     have c7b1 := bne_iff_ne.mpr c7
     by_cases c8 : (rd l0 x7_1) = 9
     ·
      rw [if_pos c8] at H
      have c8b0 := beq_iff_eq.mpr c8
      have c8b1 := bne_eq_false_iff_eq.mpr c8
      clear c8
      obtain rfl := Option.some.inj H
      have p453 : 0 ≤ (x7_1 : Int) := dT
      have q453 : x7_1 < (l0.length : Int) := dT
      obtain ⟨ad453, e453, hx453_0⟩ := Kd.at_int HR0.out x7_1 p453 q453
      cases e453
      replace p453 := eq_true p453
      replace q453 := eq_true q453
      go_wp2
      go_ret
      exact ⟨by first | rfl | (simp; done) | (simp [nil_ne_, nil_eq_]; done) | (simp [*]; done), zD⟩
     rw [if_neg c8] at H
     have c8b0 := beq_eq_false_iff_ne.mpr c8
     have c8b1 := bne_iff_ne.mpr c8
     by_cases c9 : (rd l0 x7_1) = 44
     ·
      rw [if_pos c9] at H
      have c9b0 := beq_iff_eq.mpr c9
      have c9b1 := bne_eq_false_iff_eq.mpr c9
      clear c9
      obtain rfl := Option.some.inj H
      have p453 : 0 ≤ (x7_1 : Int) := dT
      have q453 : x7_1 < (l0.length : Int) := dT
      obtain ⟨ad453, e453, hx453_0⟩ := Kd.at_int HR0.out x7_1 p453 q453
      cases e453
      replace p453 := eq_true p453
      replace q453 := eq_true q453
      go_wp2
      go_ret
      exact ⟨by first | rfl | (simp; done) | (simp [nil_ne_, nil_eq_]; done) | (simp [*]; done), zD⟩
     rw [if_neg c9] at H
     have c9b0 := beq_eq_false_iff_ne.mpr c9
     have c9b1 := bne_iff_ne.mpr c9
     by_cases c10 : (rd l0 x7_1) = 125
     ·
      rw [if_pos c10] at H
      have c10b0 := beq_iff_eq.mpr c10
      have c10b1 := bne_eq_false_iff_eq.mpr c10
      clear c10
      obtain rfl := Option.some.inj H
      have p453 : 0 ≤ (x7_1 : Int) := dT
      have q453 : x7_1 < (l0.length : Int) := dT
      obtain ⟨ad453, e453, hx453_0⟩ := Kd.at_int HR0.out x7_1 p453 q453
      cases e453
      replace p453 := eq_true p453
      replace q453 := eq_true q453
      go_wp2
      go_ret
      exact ⟨by first | rfl | (simp; done) | (simp [nil_ne_, nil_eq_]; done) | (simp [*]; done), zD⟩
     rw [if_neg c10] at H
     have c10b0 := beq_eq_false_iff_ne.mpr c10
     have c10b1 := bne_iff_ne.mpr c10
     by_cases c11 : (rd l0 x7_1) = 93
     ·
      rw [if_pos c11] at H
      have c11b0 := beq_iff_eq.mpr c11
      have c11b1 := bne_eq_false_iff_eq.mpr c11
      clear c11
      obtain rfl := Option.some.inj H
      have p453 : 0 ≤ (x7_1 : Int) := dT
      have q453 : x7_1 < (l0.length : Int) := dT
      obtain ⟨ad453, e453, hx453_0⟩ := Kd.at_int HR0.out x7_1 p453 q453
      cases e453
      replace p453 := eq_true p453
      replace q453 := eq_true q453
      go_wp2
      go_ret
      exact ⟨by first | rfl | (simp; done) | (simp [nil_ne_, nil_eq_]; done) | (simp [*]; done), zD⟩
     rw [if_neg c11] at H
     have c11b0 := beq_eq_false_iff_ne.mpr c11
     have c11b1 := bne_iff_ne.mpr c11
     have H' := Aside0.mk H
     clear H
     have p453 : 0 ≤ (x7_1 : Int) := dT
     have q453 : x7_1 < (l0.length : Int) := dT
     obtain ⟨ad453, e453, hx453_0⟩ := Kd.at_int HR0.out x7_1 p453 q453
     cases e453
     replace p453 := eq_true p453
     replace q453 := eq_true q453
     go_wp2
     go_roundg k1
     case measure => have := HK1.out; omega
     case rel => exact ⟨(wrap64 (x7_1 + 1)), zE, H', ⟨by have := HK1.out; omega⟩, zD⟩
    rw [if_neg c4] at H
    exact absurd H (by simp)
   rw [if_neg c3] at H
   exact absurd H (by simp)
  rw [if_neg c2] at H
  have c2b0 := decide_eq_false c2
  clear c2
  obtain rfl := Option.some.inj H
  go_wp2
  go_ret
  exact ⟨by first | rfl | (simp; done) | (simp [nil_ne_, nil_eq_]; done) | (simp [*]; done), zD⟩
mutual
def hI_.j0 : Nat → Int → Bool → Option (Int)
  | 0, _, _ => none
  | k + 1, x0, x8 => if x8 = true then (some ((x0 - 48) % 256)) else (if x0 ≥ 65 then (hI_.j1 k x0 (decide (x0 ≤ 70))) else (hI_.j1 k x0 false))
def hI_.j1 : Nat → Int → Bool → Option (Int)
  | 0, _, _ => none
  | k + 1, x0, x17 => if x17 = true then (some (((x0 - 65) % 256) + 10)) else (if x0 ≥ 97 then (if x0 ≤ 102 then (some (((x0 - 97) % 256) + 10)) else (some (-1))) else (some (-1)))
end
def hI_.f (k : Nat) (a0 : Int) : Option (Int) := if a0 ≥ 48 then (hI_.j0 k a0 (decide (a0 ≤ 57))) else (hI_.j0 k a0 false)
set_option maxHeartbeats 8000000 in
set_option maxRecDepth 100000 in
theorem hI_.calls (k : Nat) (a0 : Int) (r : Int) (w : World) (h : hI_.f k a0 = some r) :
    Calls Tryz.prog 101 #[.int .u8 a0] w fun e w' => e = .returned (.int .i64 r) ∧ Drawn0 w w' := by
 have H : (if a0 ≥ 48 then (hI_.j0 k a0 (decide (a0 ≤ 57))) else (hI_.j0 k a0 false)) = some r := h
 clear h
 have HC2 := Aside0.mk H
 clear H
 go_enter Tryz.func101, Tryz.ntmps101
 go_upto_region 1 with (fail)
 go_cut [8] (fun v8 wc => ∃ (kq : Nat) (x8_1 : Bool), v8 = .bool x8_1 ∧ Aside0 (hI_.j0 kq a0 x8_1 = some r) ∧ Aside0 (kq ≤ k) ∧ Drawn0 w wc)
 case first =>
  have H := HC2.out
  clear HC2
  by_cases c3 : a0 ≥ 48
  ·
   rw [if_pos c3] at H
   have c3b0 := decide_eq_true c3
   clear c3
   (first | rw [c3b0] | (simp only [i64_w, i32_w]; rw [c3b0]) | rw [c3b1] | skip)
   have H' := Aside0.mk H
   clear H
   go_wp2
   go_meet
   case rel => exact ⟨_, (decide (a0 ≤ 57)), zE, H', ⟨by first | omega | exact Nat.le_refl _⟩, zD⟩
  rw [if_neg c3] at H
  have c3b0 := decide_eq_false c3
  clear c3
  (first | rw [c3b0] | (simp only [i64_w, i32_w]; rw [c3b0]) | rw [c3b1] | skip)
  have H' := Aside0.mk H
  clear H
  go_wp2
  go_meet
  case rel => exact ⟨_, (false), zE, H', ⟨by first | omega | exact Nat.le_refl _⟩, zD⟩
 clear HC2
 obtain ⟨kq, x8_1, rfl, HA, HJ1, ⟨mc1, rfl⟩⟩ := hcut
 rcases kq with _ | kj1
 · exact absurd HA.out (by simp [hI_.j0])
 have H := HA.out
 clear HA
 simp only [hI_.j0] at H
 by_cases c4 : x8_1 = true
 ·
  subst c4
  rw [if_pos rfl] at H
  obtain rfl := Option.some.inj H
  go_wp2
  go_ret
  exact ⟨by first | rfl | (simp; done) | (simp [nil_ne_, nil_eq_]; done) | (simp [*]; done), zD⟩
 replace c4 := Bool.eq_false_iff.mpr c4
 subst c4
 rw [if_neg Bool.false_ne_true] at H
 have HC5 := Aside0.mk H
 clear H
 go_upto_region 3 with (fail)
 go_cut [17] (fun v17 wc => ∃ (kq : Nat) (x17_4 : Bool), v17 = .bool x17_4 ∧ Aside0 (hI_.j1 kq a0 x17_4 = some r) ∧ Aside0 (kq ≤ kj1) ∧ Drawn0 w wc)
 case first =>
  have H := HC5.out
  clear HC5
  by_cases c6 : a0 ≥ 65
  ·
   rw [if_pos c6] at H
   have c6b0 := decide_eq_true c6
   clear c6
   (first | rw [c6b0] | (simp only [i64_w, i32_w]; rw [c6b0]) | rw [c6b1] | skip)
   have H' := Aside0.mk H
   clear H
   go_wp2
   go_meet
   case rel => exact ⟨_, (decide (a0 ≤ 70)), zE, H', ⟨by have := HJ1.out; first | omega | exact Nat.le_refl _⟩, zD⟩
  rw [if_neg c6] at H
  have c6b0 := decide_eq_false c6
  clear c6
  (first | rw [c6b0] | (simp only [i64_w, i32_w]; rw [c6b0]) | rw [c6b1] | skip)
  have H' := Aside0.mk H
  clear H
  go_wp2
  go_meet
  case rel => exact ⟨_, (false), zE, H', ⟨by have := HJ1.out; first | omega | exact Nat.le_refl _⟩, zD⟩
 clear HC5
 (try clear c4)
 obtain ⟨kq, x17_4, rfl, HA, HJ4, ⟨mc4, rfl⟩⟩ := hcut
 rcases kq with _ | kj4
 · exact absurd HA.out (by simp [hI_.j1])
 have H := HA.out
 clear HA
 simp only [hI_.j1] at H
 by_cases c7 : x17_4 = true
 ·
  subst c7
  rw [if_pos rfl] at H
  obtain rfl := Option.some.inj H
  go_wp2
  go_ret
  exact ⟨by first | rfl | (simp; done) | (simp [nil_ne_, nil_eq_]; done) | (simp [*]; done), zD⟩
 replace c7 := Bool.eq_false_iff.mpr c7
 subst c7
 rw [if_neg Bool.false_ne_true] at H
 by_cases c8 : a0 ≥ 97
 ·
  rw [if_pos c8] at H
  have c8b0 := decide_eq_true c8
  clear c8
  by_cases c9 : a0 ≤ 102
  ·
   rw [if_pos c9] at H
   have c9b0 := decide_eq_true c9
   clear c9
   obtain rfl := Option.some.inj H
   go_wp2
   go_ret
   exact ⟨by first | rfl | (simp; done) | (simp [nil_ne_, nil_eq_]; done) | (simp [*]; done), zD⟩
  rw [if_neg c9] at H
  have c9b0 := decide_eq_false c9
  clear c9
  obtain rfl := Option.some.inj H
  go_wp2
  go_ret
  exact ⟨by first | rfl | (simp; done) | (simp [nil_ne_, nil_eq_]; done) | (simp [*]; done), zD⟩
 rw [if_neg c8] at H
 have c8b0 := decide_eq_false c8
 clear c8
 obtain rfl := Option.some.inj H
 go_wp2
 go_ret
 exact ⟨by first | rfl | (simp; done) | (simp [nil_ne_, nil_eq_]; done) | (simp [*]; done), zD⟩
def dSUE_.f (k : Nat) (l0 : List Int) : Option (Int × Bool) := if (l0.length : Int) < 6 then (some (65533, false)) else (if 2 < (l0.length : Int) then ((hI_.f k (rd l0 2)).bind fun t455 => (if 3 < (l0.length : Int) then ((hI_.f k (rd l0 3)).bind fun t457 => (if 4 < (l0.length : Int) then ((hI_.f k (rd l0 4)).bind fun t459 => (if 5 < (l0.length : Int) then ((hI_.f k (rd l0 5)).bind fun t461 => (if t455 = (-1) then (some (65533, false)) else (if t457 = (-1) then (some (65533, false)) else (if t459 = (-1) then (some (65533, false)) else (if t461 = (-1) then (some (65533, false)) else (some (wrap32 (wrap64 ((wrap64 ((wrap64 ((wrap64 (t455 * 4096)) + (wrap64 (t457 * 256)))) + (wrap64 (t459 * 16)))) + t461)), true))))))) else (none))) else (none))) else (none))) else (none))
set_option maxHeartbeats 8000000 in
set_option maxRecDepth 100000 in
theorem dSUE_.calls (k : Nat) (A0 : Option Addr) (c0 : Nat) (l0 : List Int) (r1 : Int) (r2 : Bool) (w : World) (hr0 : Kd.C (Kd.int .u8) w A0 l0.length l0) (hc0 : l0.length ≤ c0) (h : dSUE_.f k l0 = some (r1, r2)) :
    Calls Tryz.prog 93 #[.slice A0 l0.length c0] w fun e w' => e = .returned (.tuple #[.int .i32 r1, .bool r2]) ∧ Drawn0 w w' := by
 have HR0 := Aside0.mk hr0
 have HC0 := Aside0.mk hc0
 clear hr0 hc0
 have H : (if (l0.length : Int) < 6 then (some (65533, false)) else (if 2 < (l0.length : Int) then ((hI_.f k (rd l0 2)).bind fun t455 => (if 3 < (l0.length : Int) then ((hI_.f k (rd l0 3)).bind fun t457 => (if 4 < (l0.length : Int) then ((hI_.f k (rd l0 4)).bind fun t459 => (if 5 < (l0.length : Int) then ((hI_.f k (rd l0 5)).bind fun t461 => (if t455 = (-1) then (some (65533, false)) else (if t457 = (-1) then (some (65533, false)) else (if t459 = (-1) then (some (65533, false)) else (if t461 = (-1) then (some (65533, false)) else (some (wrap32 (wrap64 ((wrap64 ((wrap64 ((wrap64 (t455 * 4096)) + (wrap64 (t457 * 256)))) + (wrap64 (t459 * 16)))) + t461)), true))))))) else (none))) else (none))) else (none))) else (none))) = some (r1, r2) := h
 clear h
 by_cases c2 : (l0.length : Int) < 6
 ·
  rw [if_pos c2] at H
  have c2b0 := decide_eq_true c2
  have c2b1 : decide (l0.length < 6) = true := decide_eq_true (by omega)
  clear c2
  simp only [Option.some.injEq, Prod.mk.injEq] at H
  obtain ⟨rfl, rfl⟩ := H
  go_enter Tryz.func93, Tryz.ntmps93
  go_wp2
  repeat (go_quiet (fail); try go_wp2)
  go_ret2
  exact ⟨by first | rfl | (simp; done) | (simp [nil_ne_, nil_eq_]; done) | (simp [*]; done), zD⟩
 rw [if_neg c2] at H
 have c2b0 := decide_eq_false c2
 have c2b1 : decide (l0.length < 6) = false := decide_eq_false (by omega)
 clear c2
 by_cases c3 : 2 < (l0.length : Int)
 ·
  rw [if_pos c3] at H
  have c3b0 := decide_eq_true c3
  have c3b1 : decide (2 < l0.length) = true := decide_eq_true (by omega)
  clear c3
  replace H := Option.bind_eq_some_iff.mp H
  obtain ⟨t455, A40, H⟩ := H
  try dsimp only at H
  have A4 := Aside0.mk A40
  clear A40
  by_cases c5 : 3 < (l0.length : Int)
  ·
   rw [if_pos c5] at H
   have c5b0 := decide_eq_true c5
   have c5b1 : decide (3 < l0.length) = true := decide_eq_true (by omega)
   clear c5
   replace H := Option.bind_eq_some_iff.mp H
   obtain ⟨t457, A60, H⟩ := H
   try dsimp only at H
   have A6 := Aside0.mk A60
   clear A60
   by_cases c7 : 4 < (l0.length : Int)
   ·
    rw [if_pos c7] at H
    have c7b0 := decide_eq_true c7
    have c7b1 : decide (4 < l0.length) = true := decide_eq_true (by omega)
    clear c7
    replace H := Option.bind_eq_some_iff.mp H
    obtain ⟨t459, A80, H⟩ := H
    try dsimp only at H
    have A8 := Aside0.mk A80
    clear A80
    by_cases c9 : 5 < (l0.length : Int)
    ·
     rw [if_pos c9] at H
     have c9b0 := decide_eq_true c9
     have c9b1 : decide (5 < l0.length) = true := decide_eq_true (by omega)
     clear c9
     replace H := Option.bind_eq_some_iff.mp H
     obtain ⟨t461, A100, H⟩ := H
     try dsimp only at H
     have A10 := Aside0.mk A100
     clear A100
     by_cases c11 : t455 = (-1)
     ·
      rw [if_pos c11] at H
      have c11b0 := beq_iff_eq.mpr c11
      have c11b1 := bne_eq_false_iff_eq.mpr c11
      clear c11
      simp only [Option.some.injEq, Prod.mk.injEq] at H
      obtain ⟨rfl, rfl⟩ := H
      have p454 : 0 ≤ (2 : Int) := (by omega)
      have q454 : 2 < (l0.length : Int) := dT
      obtain ⟨ad454, e454, hx454_0⟩ := Kd.at_int HR0.out 2 p454 q454
      cases e454
      (try simp only [show (2 : Int).toNat = 2 from rfl, Nat.reduceMul, Nat.reduceEqDiff, Go.Addr.add, ↓reduceIte] at hx454_0)
      have qi454 : (2 < l0.length) = True := eq_true (by omega)
      (try rw [show ((2 : Int)).toNat = 2 from rfl] at hx454_0)
      replace p454 := eq_true p454
      replace q454 := eq_true q454
      go_enter Tryz.func93, Tryz.ntmps93
      iterate 3 (try go_wp2_with (first | (go_at_call 101; (with_reducible refine (hI_.calls k (rd l0 2) t455 _ A4.out).mono ?_); rintro e w' ⟨rfl, ⟨nd, rfl⟩⟩; (try first | ((with_reducible refine ⟨?_, _, World.drewN_drewN _ _ _⟩); rfl) | ((with_reducible refine ⟨?_, _, Eq.trans (World.drewN_drewN _ _ _) (congrArg (World.drewN _) (Nat.add_assoc _ _ _))⟩); rfl)); have p456 : 0 ≤ (3 : Int) := (by omega); have q456 : 3 < (l0.length : Int) := dT; obtain ⟨ad456, e456, hx456_0⟩ := Kd.at_int HR0.out 3 p456 q456; obtain rfl : ad454 = ad456 := (by injection e456); (try simp only [show (3 : Int).toNat = 3 from rfl, Nat.reduceMul, Nat.reduceEqDiff, Go.Addr.add, ↓reduceIte] at hx456_0); have qi456 : (3 < l0.length) = True := eq_true (by omega); (try rw [show ((3 : Int)).toNat = 3 from rfl] at hx456_0); replace p456 := eq_true p456; replace q456 := eq_true q456) | (go_at_call 101; (with_reducible refine (hI_.calls k (rd l0 3) t457 _ A6.out).mono ?_); rintro e w' ⟨rfl, ⟨nd, rfl⟩⟩; (try first | ((with_reducible refine ⟨?_, _, World.drewN_drewN _ _ _⟩); rfl) | ((with_reducible refine ⟨?_, _, Eq.trans (World.drewN_drewN _ _ _) (congrArg (World.drewN _) (Nat.add_assoc _ _ _))⟩); rfl)); have p458 : 0 ≤ (4 : Int) := (by omega); have q458 : 4 < (l0.length : Int) := dT; obtain ⟨ad458, e458, hx458_0⟩ := Kd.at_int HR0.out 4 p458 q458; obtain rfl : ad454 = ad458 := (by injection e458); (try simp only [show (4 : Int).toNat = 4 from rfl, Nat.reduceMul, Nat.reduceEqDiff, Go.Addr.add, ↓reduceIte] at hx458_0); have qi458 : (4 < l0.length) = True := eq_true (by omega); (try rw [show ((4 : Int)).toNat = 4 from rfl] at hx458_0); replace p458 := eq_true p458; replace q458 := eq_true q458) | (go_at_call 101; (with_reducible refine (hI_.calls k (rd l0 4) t459 _ A8.out).mono ?_); rintro e w' ⟨rfl, ⟨nd, rfl⟩⟩; (try first | ((with_reducible refine ⟨?_, _, World.drewN_drewN _ _ _⟩); rfl) | ((with_reducible refine ⟨?_, _, Eq.trans (World.drewN_drewN _ _ _) (congrArg (World.drewN _) (Nat.add_assoc _ _ _))⟩); rfl)); have p460 : 0 ≤ (5 : Int) := (by omega); have q460 : 5 < (l0.length : Int) := dT; obtain ⟨ad460, e460, hx460_0⟩ := Kd.at_int HR0.out 5 p460 q460; obtain rfl : ad454 = ad460 := (by injection e460); (try simp only [show (5 : Int).toNat = 5 from rfl, Nat.reduceMul, Nat.reduceEqDiff, Go.Addr.add, ↓reduceIte] at hx460_0); have qi460 : (5 < l0.length) = True := eq_true (by omega); (try rw [show ((5 : Int)).toNat = 5 from rfl] at hx460_0); replace p460 := eq_true p460; replace q460 := eq_true q460) | (go_at_call 101; (with_reducible refine (hI_.calls k (rd l0 5) t461 _ A10.out).mono ?_); rintro e w' ⟨rfl, ⟨nd, rfl⟩⟩; (try first | ((with_reducible refine ⟨?_, _, World.drewN_drewN _ _ _⟩); rfl) | ((with_reducible refine ⟨?_, _, Eq.trans (World.drewN_drewN _ _ _) (congrArg (World.drewN _) (Nat.add_assoc _ _ _))⟩); rfl)))); try go_quiet (first | (go_at_call 101; (with_reducible refine (hI_.calls k (rd l0 2) t455 _ A4.out).mono ?_); rintro e w' ⟨rfl, ⟨nd, rfl⟩⟩; (try first | ((with_reducible refine ⟨?_, _, World.drewN_drewN _ _ _⟩); rfl) | ((with_reducible refine ⟨?_, _, Eq.trans (World.drewN_drewN _ _ _) (congrArg (World.drewN _) (Nat.add_assoc _ _ _))⟩); rfl)); have p456 : 0 ≤ (3 : Int) := (by omega); have q456 : 3 < (l0.length : Int) := dT; obtain ⟨ad456, e456, hx456_0⟩ := Kd.at_int HR0.out 3 p456 q456; obtain rfl : ad454 = ad456 := (by injection e456); (try simp only [show (3 : Int).toNat = 3 from rfl, Nat.reduceMul, Nat.reduceEqDiff, Go.Addr.add, ↓reduceIte] at hx456_0); have qi456 : (3 < l0.length) = True := eq_true (by omega); (try rw [show ((3 : Int)).toNat = 3 from rfl] at hx456_0); replace p456 := eq_true p456; replace q456 := eq_true q456) | (go_at_call 101; (with_reducible refine (hI_.calls k (rd l0 3) t457 _ A6.out).mono ?_); rintro e w' ⟨rfl, ⟨nd, rfl⟩⟩; (try first | ((with_reducible refine ⟨?_, _, World.drewN_drewN _ _ _⟩); rfl) | ((with_reducible refine ⟨?_, _, Eq.trans (World.drewN_drewN _ _ _) (congrArg (World.drewN _) (Nat.add_assoc _ _ _))⟩); rfl)); have p458 : 0 ≤ (4 : Int) := (by omega); have q458 : 4 < (l0.length : Int) := dT; obtain ⟨ad458, e458, hx458_0⟩ := Kd.at_int HR0.out 4 p458 q458; obtain rfl : ad454 = ad458 := (by injection e458); (try simp only [show (4 : Int).toNat = 4 from rfl, Nat.reduceMul, Nat.reduceEqDiff, Go.Addr.add, ↓reduceIte] at hx458_0); have qi458 : (4 < l0.length) = True := eq_true (by omega); (try rw [show ((4 : Int)).toNat = 4 from rfl] at hx458_0); replace p458 := eq_true p458; replace q458 := eq_true q458) | (go_at_call 101; (with_reducible refine (hI_.calls k (rd l0 4) t459 _ A8.out).mono ?_); rintro e w' ⟨rfl, ⟨nd, rfl⟩⟩; (try first | ((with_reducible refine ⟨?_, _, World.drewN_drewN _ _ _⟩); rfl) | ((with_reducible refine ⟨?_, _, Eq.trans (World.drewN_drewN _ _ _) (congrArg (World.drewN _) (Nat.add_assoc _ _ _))⟩); rfl)); have p460 : 0 ≤ (5 : Int) := (by omega); have q460 : 5 < (l0.length : Int) := dT; obtain ⟨ad460, e460, hx460_0⟩ := Kd.at_int HR0.out 5 p460 q460; obtain rfl : ad454 = ad460 := (by injection e460); (try simp only [show (5 : Int).toNat = 5 from rfl, Nat.reduceMul, Nat.reduceEqDiff, Go.Addr.add, ↓reduceIte] at hx460_0); have qi460 : (5 < l0.length) = True := eq_true (by omega); (try rw [show ((5 : Int)).toNat = 5 from rfl] at hx460_0); replace p460 := eq_true p460; replace q460 := eq_true q460) | (go_at_call 101; (with_reducible refine (hI_.calls k (rd l0 5) t461 _ A10.out).mono ?_); rintro e w' ⟨rfl, ⟨nd, rfl⟩⟩; (try first | ((with_reducible refine ⟨?_, _, World.drewN_drewN _ _ _⟩); rfl) | ((with_reducible refine ⟨?_, _, Eq.trans (World.drewN_drewN _ _ _) (congrArg (World.drewN _) (Nat.add_assoc _ _ _))⟩); rfl)))))
      go_ret2
      exact ⟨by first | rfl | (simp; done) | (simp [nil_ne_, nil_eq_]; done) | (simp [*]; done), zD⟩
     rw [if_neg c11] at H
     have c11b0 := beq_eq_false_iff_ne.mpr c11
     have c11b1 := bne_iff_ne.mpr c11
     by_cases c12 : t457 = (-1)
     ·
      rw [if_pos c12] at H
      have c12b0 := beq_iff_eq.mpr c12
      have c12b1 := bne_eq_false_iff_eq.mpr c12
      clear c12
      simp only [Option.some.injEq, Prod.mk.injEq] at H
      obtain ⟨rfl, rfl⟩ := H
      have p454 : 0 ≤ (2 : Int) := (by omega)
      have q454 : 2 < (l0.length : Int) := dT
      obtain ⟨ad454, e454, hx454_0⟩ := Kd.at_int HR0.out 2 p454 q454
      cases e454
      (try simp only [show (2 : Int).toNat = 2 from rfl, Nat.reduceMul, Nat.reduceEqDiff, Go.Addr.add, ↓reduceIte] at hx454_0)
      have qi454 : (2 < l0.length) = True := eq_true (by omega)
      (try rw [show ((2 : Int)).toNat = 2 from rfl] at hx454_0)
      replace p454 := eq_true p454
      replace q454 := eq_true q454
      go_enter Tryz.func93, Tryz.ntmps93
      iterate 3 (try go_wp2_with (first | (go_at_call 101; (with_reducible refine (hI_.calls k (rd l0 2) t455 _ A4.out).mono ?_); rintro e w' ⟨rfl, ⟨nd, rfl⟩⟩; (try first | ((with_reducible refine ⟨?_, _, World.drewN_drewN _ _ _⟩); rfl) | ((with_reducible refine ⟨?_, _, Eq.trans (World.drewN_drewN _ _ _) (congrArg (World.drewN _) (Nat.add_assoc _ _ _))⟩); rfl)); have p456 : 0 ≤ (3 : Int) := (by omega); have q456 : 3 < (l0.length : Int) := dT; obtain ⟨ad456, e456, hx456_0⟩ := Kd.at_int HR0.out 3 p456 q456; obtain rfl : ad454 = ad456 := (by injection e456); (try simp only [show (3 : Int).toNat = 3 from rfl, Nat.reduceMul, Nat.reduceEqDiff, Go.Addr.add, ↓reduceIte] at hx456_0); have qi456 : (3 < l0.length) = True := eq_true (by omega); (try rw [show ((3 : Int)).toNat = 3 from rfl] at hx456_0); replace p456 := eq_true p456; replace q456 := eq_true q456) | (go_at_call 101; (with_reducible refine (hI_.calls k (rd l0 3) t457 _ A6.out).mono ?_); rintro e w' ⟨rfl, ⟨nd, rfl⟩⟩; (try first | ((with_reducible refine ⟨?_, _, World.drewN_drewN _ _ _⟩); rfl) | ((with_reducible refine ⟨?_, _, Eq.trans (World.drewN_drewN _ _ _) (congrArg (World.drewN _) (Nat.add_assoc _ _ _))⟩); rfl)); have p458 : 0 ≤ (4 : Int) := (by omega); have q458 : 4 < (l0.length : Int) := dT; obtain ⟨ad458, e458, hx458_0⟩ := Kd.at_int HR0.out 4 p458 q458; obtain rfl : ad454 = ad458 := (by injection e458); (try simp only [show (4 : Int).toNat = 4 from rfl, Nat.reduceMul, Nat.reduceEqDiff, Go.Addr.add, ↓reduceIte] at hx458_0); have qi458 : (4 < l0.length) = True := eq_true (by omega); (try rw [show ((4 : Int)).toNat = 4 from rfl] at hx458_0); replace p458 := eq_true p458; replace q458 := eq_true q458) | (go_at_call 101; (with_reducible refine (hI_.calls k (rd l0 4) t459 _ A8.out).mono ?_); rintro e w' ⟨rfl, ⟨nd, rfl⟩⟩; (try first | ((with_reducible refine ⟨?_, _, World.drewN_drewN _ _ _⟩); rfl) | ((with_reducible refine ⟨?_, _, Eq.trans (World.drewN_drewN _ _ _) (congrArg (World.drewN _) (Nat.add_assoc _ _ _))⟩); rfl)); have p460 : 0 ≤ (5 : Int) := (by omega); have q460 : 5 < (l0.length : Int) := dT; obtain ⟨ad460, e460, hx460_0⟩ := Kd.at_int HR0.out 5 p460 q460; obtain rfl : ad454 = ad460 := (by injection e460); (try simp only [show (5 : Int).toNat = 5 from rfl, Nat.reduceMul, Nat.reduceEqDiff, Go.Addr.add, ↓reduceIte] at hx460_0); have qi460 : (5 < l0.length) = True := eq_true (by omega); (try rw [show ((5 : Int)).toNat = 5 from rfl] at hx460_0); replace p460 := eq_true p460; replace q460 := eq_true q460) | (go_at_call 101; (with_reducible refine (hI_.calls k (rd l0 5) t461 _ A10.out).mono ?_); rintro e w' ⟨rfl, ⟨nd, rfl⟩⟩; (try first | ((with_reducible refine ⟨?_, _, World.drewN_drewN _ _ _⟩); rfl) | ((with_reducible refine ⟨?_, _, Eq.trans (World.drewN_drewN _ _ _) (congrArg (World.drewN _) (Nat.add_assoc _ _ _))⟩); rfl)))); try go_quiet (first | (go_at_call 101; (with_reducible refine (hI_.calls k (rd l0 2) t455 _ A4.out).mono ?_); rintro e w' ⟨rfl, ⟨nd, rfl⟩⟩; (try first | ((with_reducible refine ⟨?_, _, World.drewN_drewN _ _ _⟩); rfl) | ((with_reducible refine ⟨?_, _, Eq.trans (World.drewN_drewN _ _ _) (congrArg (World.drewN _) (Nat.add_assoc _ _ _))⟩); rfl)); have p456 : 0 ≤ (3 : Int) := (by omega); have q456 : 3 < (l0.length : Int) := dT; obtain ⟨ad456, e456, hx456_0⟩ := Kd.at_int HR0.out 3 p456 q456; obtain rfl : ad454 = ad456 := (by injection e456); (try simp only [show (3 : Int).toNat = 3 from rfl, Nat.reduceMul, Nat.reduceEqDiff, Go.Addr.add, ↓reduceIte] at hx456_0); have qi456 : (3 < l0.length) = True := eq_true (by omega); (try rw [show ((3 : Int)).toNat = 3 from rfl] at hx456_0); replace p456 := eq_true p456; replace q456 := eq_true q456) | (go_at_call 101; (with_reducible refine (hI_.calls k (rd l0 3) t457 _ A6.out).mono ?_); rintro e w' ⟨rfl, ⟨nd, rfl⟩⟩; (try first | ((with_reducible refine ⟨?_, _, World.drewN_drewN _ _ _⟩); rfl) | ((with_reducible refine ⟨?_, _, Eq.trans (World.drewN_drewN _ _ _) (congrArg (World.drewN _) (Nat.add_assoc _ _ _))⟩); rfl)); have p458 : 0 ≤ (4 : Int) := (by omega); have q458 : 4 < (l0.length : Int) := dT; obtain ⟨ad458, e458, hx458_0⟩ := Kd.at_int HR0.out 4 p458 q458; obtain rfl : ad454 = ad458 := (by injection e458); (try simp only [show (4 : Int).toNat = 4 from rfl, Nat.reduceMul, Nat.reduceEqDiff, Go.Addr.add, ↓reduceIte] at hx458_0); have qi458 : (4 < l0.length) = True := eq_true (by omega); (try rw [show ((4 : Int)).toNat = 4 from rfl] at hx458_0); replace p458 := eq_true p458; replace q458 := eq_true q458) | (go_at_call 101; (with_reducible refine (hI_.calls k (rd l0 4) t459 _ A8.out).mono ?_); rintro e w' ⟨rfl, ⟨nd, rfl⟩⟩; (try first | ((with_reducible refine ⟨?_, _, World.drewN_drewN _ _ _⟩); rfl) | ((with_reducible refine ⟨?_, _, Eq.trans (World.drewN_drewN _ _ _) (congrArg (World.drewN _) (Nat.add_assoc _ _ _))⟩); rfl)); have p460 : 0 ≤ (5 : Int) := (by omega); have q460 : 5 < (l0.length : Int) := dT; obtain ⟨ad460, e460, hx460_0⟩ := Kd.at_int HR0.out 5 p460 q460; obtain rfl : ad454 = ad460 := (by injection e460); (try simp only [show (5 : Int).toNat = 5 from rfl, Nat.reduceMul, Nat.reduceEqDiff, Go.Addr.add, ↓reduceIte] at hx460_0); have qi460 : (5 < l0.length) = True := eq_true (by omega); (try rw [show ((5 : Int)).toNat = 5 from rfl] at hx460_0); replace p460 := eq_true p460; replace q460 := eq_true q460) | (go_at_call 101; (with_reducible refine (hI_.calls k (rd l0 5) t461 _ A10.out).mono ?_); rintro e w' ⟨rfl, ⟨nd, rfl⟩⟩; (try first | ((with_reducible refine ⟨?_, _, World.drewN_drewN _ _ _⟩); rfl) | ((with_reducible refine ⟨?_, _, Eq.trans (World.drewN_drewN _ _ _) (congrArg (World.drewN _) (Nat.add_assoc _ _ _))⟩); rfl)))))
      go_ret2
      exact ⟨by first | rfl | (simp; done) | (simp [nil_ne_, nil_eq_]; done) | (simp [*]; done), zD⟩
     rw [if_neg c12] at H
     have c12b0 := beq_eq_false_iff_ne.mpr c12
     have c12b1 := bne_iff_ne.mpr c12
     by_cases c13 : t459 = (-1)
     ·
      rw [if_pos c13] at H
      have c13b0 := beq_iff_eq.mpr c13
      have c13b1 := bne_eq_false_iff_eq.mpr c13
      clear c13
      simp only [Option.some.injEq, Prod.mk.injEq] at H
      obtain ⟨rfl, rfl⟩ := H
      have p454 : 0 ≤ (2 : Int) := (by omega)
      have q454 : 2 < (l0.length : Int) := dT
      obtain ⟨ad454, e454, hx454_0⟩ := Kd.at_int HR0.out 2 p454 q454
      cases e454
      (try simp only [show (2 : Int).toNat = 2 from rfl, Nat.reduceMul, Nat.reduceEqDiff, Go.Addr.add, ↓reduceIte] at hx454_0)
      have qi454 : (2 < l0.length) = True := eq_true (by omega)
      (try rw [show ((2 : Int)).toNat = 2 from rfl] at hx454_0)
      replace p454 := eq_true p454
      replace q454 := eq_true q454
      go_enter Tryz.func93, Tryz.ntmps93
      iterate 3 (try go_wp2_with (first | (go_at_call 101; (with_reducible refine (hI_.calls k (rd l0 2) t455 _ A4.out).mono ?_); rintro e w' ⟨rfl, ⟨nd, rfl⟩⟩; (try first | ((with_reducible refine ⟨?_, _, World.drewN_drewN _ _ _⟩); rfl) | ((with_reducible refine ⟨?_, _, Eq.trans (World.drewN_drewN _ _ _) (congrArg (World.drewN _) (Nat.add_assoc _ _ _))⟩); rfl)); have p456 : 0 ≤ (3 : Int) := (by omega); have q456 : 3 < (l0.length : Int) := dT; obtain ⟨ad456, e456, hx456_0⟩ := Kd.at_int HR0.out 3 p456 q456; obtain rfl : ad454 = ad456 := (by injection e456); (try simp only [show (3 : Int).toNat = 3 from rfl, Nat.reduceMul, Nat.reduceEqDiff, Go.Addr.add, ↓reduceIte] at hx456_0); have qi456 : (3 < l0.length) = True := eq_true (by omega); (try rw [show ((3 : Int)).toNat = 3 from rfl] at hx456_0); replace p456 := eq_true p456; replace q456 := eq_true q456) | (go_at_call 101; (with_reducible refine (hI_.calls k (rd l0 3) t457 _ A6.out).mono ?_); rintro e w' ⟨rfl, ⟨nd, rfl⟩⟩; (try first | ((with_reducible refine ⟨?_, _, World.drewN_drewN _ _ _⟩); rfl) | ((with_reducible refine ⟨?_, _, Eq.trans (World.drewN_drewN _ _ _) (congrArg (World.drewN _) (Nat.add_assoc _ _ _))⟩); rfl)); have p458 : 0 ≤ (4 : Int) := (by omega); have q458 : 4 < (l0.length : Int) := dT; obtain ⟨ad458, e458, hx458_0⟩ := Kd.at_int HR0.out 4 p458 q458; obtain rfl : ad454 = ad458 := (by injection e458); (try simp only [show (4 : Int).toNat = 4 from rfl, Nat.reduceMul, Nat.reduceEqDiff, Go.Addr.add, ↓reduceIte] at hx458_0); have qi458 : (4 < l0.length) = True := eq_true (by omega); (try rw [show ((4 : Int)).toNat = 4 from rfl] at hx458_0); replace p458 := eq_true p458; replace q458 := eq_true q458) | (go_at_call 101; (with_reducible refine (hI_.calls k (rd l0 4) t459 _ A8.out).mono ?_); rintro e w' ⟨rfl, ⟨nd, rfl⟩⟩; (try first | ((with_reducible refine ⟨?_, _, World.drewN_drewN _ _ _⟩); rfl) | ((with_reducible refine ⟨?_, _, Eq.trans (World.drewN_drewN _ _ _) (congrArg (World.drewN _) (Nat.add_assoc _ _ _))⟩); rfl)); have p460 : 0 ≤ (5 : Int) := (by omega); have q460 : 5 < (l0.length : Int) := dT; obtain ⟨ad460, e460, hx460_0⟩ := Kd.at_int HR0.out 5 p460 q460; obtain rfl : ad454 = ad460 := (by injection e460); (try simp only [show (5 : Int).toNat = 5 from rfl, Nat.reduceMul, Nat.reduceEqDiff, Go.Addr.add, ↓reduceIte] at hx460_0); have qi460 : (5 < l0.length) = True := eq_true (by omega); (try rw [show ((5 : Int)).toNat = 5 from rfl] at hx460_0); replace p460 := eq_true p460; replace q460 := eq_true q460) | (go_at_call 101; (with_reducible refine (hI_.calls k (rd l0 5) t461 _ A10.out).mono ?_); rintro e w' ⟨rfl, ⟨nd, rfl⟩⟩; (try first | ((with_reducible refine ⟨?_, _, World.drewN_drewN _ _ _⟩); rfl) | ((with_reducible refine ⟨?_, _, Eq.trans (World.drewN_drewN _ _ _) (congrArg (World.drewN _) (Nat.add_assoc _ _ _))⟩); rfl)))); try go_quiet (first | (go_at_call 101; (with_reducible refine (hI_.calls k (rd l0 2) t455 _ A4.out).mono ?_); rintro e w' ⟨rfl, ⟨nd, rfl⟩⟩; (try first | ((with_reducible refine ⟨?_, _, World.drewN_drewN _ _ _⟩); rfl) | ((with_reducible refine ⟨?_, _, Eq.trans (World.drewN_drewN _ _ _) (congrArg (World.drewN _) (Nat.add_assoc _ _ _))⟩); rfl)); have p456 : 0 ≤ (3 : Int) := (by omega); have q456 : 3 < (l0.length : Int) := dT; obtain ⟨ad456, e456, hx456_0⟩ := Kd.at_int HR0.out 3 p456 q456; obtain rfl : ad454 = ad456 := (by injection e456); (try simp only [show (3 : Int).toNat = 3 from rfl, Nat.reduceMul, Nat.reduceEqDiff, Go.Addr.add, ↓reduceIte] at hx456_0); have qi456 : (3 < l0.length) = True := eq_true (by omega); (try rw [show ((3 : Int)).toNat = 3 from rfl] at hx456_0); replace p456 := eq_true p456; replace q456 := eq_true q456) | (go_at_call 101; (with_reducible refine (hI_.calls k (rd l0 3) t457 _ A6.out).mono ?_); rintro e w' ⟨rfl, ⟨nd, rfl⟩⟩; (try first | ((with_reducible refine ⟨?_, _, World.drewN_drewN _ _ _⟩); rfl) | ((with_reducible refine ⟨?_, _, Eq.trans (World.drewN_drewN _ _ _) (congrArg (World.drewN _) (Nat.add_assoc _ _ _))⟩); rfl)); have p458 : 0 ≤ (4 : Int) := (by omega); have q458 : 4 < (l0.length : Int) := dT; obtain ⟨ad458, e458, hx458_0⟩ := Kd.at_int HR0.out 4 p458 q458; obtain rfl : ad454 = ad458 := (by injection e458); (try simp only [show (4 : Int).toNat = 4 from rfl, Nat.reduceMul, Nat.reduceEqDiff, Go.Addr.add, ↓reduceIte] at hx458_0); have qi458 : (4 < l0.length) = True := eq_true (by omega); (try rw [show ((4 : Int)).toNat = 4 from rfl] at hx458_0); replace p458 := eq_true p458; replace q458 := eq_true q458) | (go_at_call 101; (with_reducible refine (hI_.calls k (rd l0 4) t459 _ A8.out).mono ?_); rintro e w' ⟨rfl, ⟨nd, rfl⟩⟩; (try first | ((with_reducible refine ⟨?_, _, World.drewN_drewN _ _ _⟩); rfl) | ((with_reducible refine ⟨?_, _, Eq.trans (World.drewN_drewN _ _ _) (congrArg (World.drewN _) (Nat.add_assoc _ _ _))⟩); rfl)); have p460 : 0 ≤ (5 : Int) := (by omega); have q460 : 5 < (l0.length : Int) := dT; obtain ⟨ad460, e460, hx460_0⟩ := Kd.at_int HR0.out 5 p460 q460; obtain rfl : ad454 = ad460 := (by injection e460); (try simp only [show (5 : Int).toNat = 5 from rfl, Nat.reduceMul, Nat.reduceEqDiff, Go.Addr.add, ↓reduceIte] at hx460_0); have qi460 : (5 < l0.length) = True := eq_true (by omega); (try rw [show ((5 : Int)).toNat = 5 from rfl] at hx460_0); replace p460 := eq_true p460; replace q460 := eq_true q460) | (go_at_call 101; (with_reducible refine (hI_.calls k (rd l0 5) t461 _ A10.out).mono ?_); rintro e w' ⟨rfl, ⟨nd, rfl⟩⟩; (try first | ((with_reducible refine ⟨?_, _, World.drewN_drewN _ _ _⟩); rfl) | ((with_reducible refine ⟨?_, _, Eq.trans (World.drewN_drewN _ _ _) (congrArg (World.drewN _) (Nat.add_assoc _ _ _))⟩); rfl)))))
      go_ret2
      exact ⟨by first | rfl | (simp; done) | (simp [nil_ne_, nil_eq_]; done) | (simp [*]; done), zD⟩
     rw [if_neg c13] at H
     have c13b0 := beq_eq_false_iff_ne.mpr c13
     have c13b1 := bne_iff_ne.mpr c13
     by_cases c14 : t461 = (-1)
     ·
      rw [if_pos c14] at H
      have c14b0 := beq_iff_eq.mpr c14
      have c14b1 := bne_eq_false_iff_eq.mpr c14
      clear c14
      simp only [Option.some.injEq, Prod.mk.injEq] at H
      obtain ⟨rfl, rfl⟩ := H
      have p454 : 0 ≤ (2 : Int) := (by omega)
      have q454 : 2 < (l0.length : Int) := dT
      obtain ⟨ad454, e454, hx454_0⟩ := Kd.at_int HR0.out 2 p454 q454
      cases e454
      (try simp only [show (2 : Int).toNat = 2 from rfl, Nat.reduceMul, Nat.reduceEqDiff, Go.Addr.add, ↓reduceIte] at hx454_0)
      have qi454 : (2 < l0.length) = True := eq_true (by omega)
      (try rw [show ((2 : Int)).toNat = 2 from rfl] at hx454_0)
      replace p454 := eq_true p454
      replace q454 := eq_true q454
      go_enter Tryz.func93, Tryz.ntmps93
      iterate 3 (try go_wp2_with (first | (go_at_call 101; (with_reducible refine (hI_.calls k (rd l0 2) t455 _ A4.out).mono ?_); rintro e w' ⟨rfl, ⟨nd, rfl⟩⟩; (try first | ((with_reducible refine ⟨?_, _, World.drewN_drewN _ _ _⟩); rfl) | ((with_reducible refine ⟨?_, _, Eq.trans (World.drewN_drewN _ _ _) (congrArg (World.drewN _) (Nat.add_assoc _ _ _))⟩); rfl)); have p456 : 0 ≤ (3 : Int) := (by omega); have q456 : 3 < (l0.length : Int) := dT; obtain ⟨ad456, e456, hx456_0⟩ := Kd.at_int HR0.out 3 p456 q456; obtain rfl : ad454 = ad456 := (by injection e456); (try simp only [show (3 : Int).toNat = 3 from rfl, Nat.reduceMul, Nat.reduceEqDiff, Go.Addr.add, ↓reduceIte] at hx456_0); have qi456 : (3 < l0.length) = True := eq_true (by omega); (try rw [show ((3 : Int)).toNat = 3 from rfl] at hx456_0); replace p456 := eq_true p456; replace q456 := eq_true q456) | (go_at_call 101; (with_reducible refine (hI_.calls k (rd l0 3) t457 _ A6.out).mono ?_); rintro e w' ⟨rfl, ⟨nd, rfl⟩⟩; (try first | ((with_reducible refine ⟨?_, _, World.drewN_drewN _ _ _⟩); rfl) | ((with_reducible refine ⟨?_, _, Eq.trans (World.drewN_drewN _ _ _) (congrArg (World.drewN _) (Nat.add_assoc _ _ _))⟩); rfl)); have p458 : 0 ≤ (4 : Int) := (by omega); have q458 : 4 < (l0.length : Int) := dT; obtain ⟨ad458, e458, hx458_0⟩ := Kd.at_int HR0.out 4 p458 q458; obtain rfl : ad454 = ad458 := (by injection e458); (try simp only [show (4 : Int).toNat = 4 from rfl, Nat.reduceMul, Nat.reduceEqDiff, Go.Addr.add, ↓reduceIte] at hx458_0); have qi458 : (4 < l0.length) = True := eq_true (by omega); (try rw [show ((4 : Int)).toNat = 4 from rfl] at hx458_0); replace p458 := eq_true p458; replace q458 := eq_true q458) | (go_at_call 101; (with_reducible refine (hI_.calls k (rd l0 4) t459 _ A8.out).mono ?_); rintro e w' ⟨rfl, ⟨nd, rfl⟩⟩; (try first | ((with_reducible refine ⟨?_, _, World.drewN_drewN _ _ _⟩); rfl) | ((with_reducible refine ⟨?_, _, Eq.trans (World.drewN_drewN _ _ _) (congrArg (World.drewN _) (Nat.add_assoc _ _ _))⟩); rfl)); have p460 : 0 ≤ (5 : Int) := (by omega); have q460 : 5 < (l0.length : Int) := dT; obtain ⟨ad460, e460, hx460_0⟩ := Kd.at_int HR0.out 5 p460 q460; obtain rfl : ad454 = ad460 := (by injection e460); (try simp only [show (5 : Int).toNat = 5 from rfl, Nat.reduceMul, Nat.reduceEqDiff, Go.Addr.add, ↓reduceIte] at hx460_0); have qi460 : (5 < l0.length) = True := eq_true (by omega); (try rw [show ((5 : Int)).toNat = 5 from rfl] at hx460_0); replace p460 := eq_true p460; replace q460 := eq_true q460) | (go_at_call 101; (with_reducible refine (hI_.calls k (rd l0 5) t461 _ A10.out).mono ?_); rintro e w' ⟨rfl, ⟨nd, rfl⟩⟩; (try first | ((with_reducible refine ⟨?_, _, World.drewN_drewN _ _ _⟩); rfl) | ((with_reducible refine ⟨?_, _, Eq.trans (World.drewN_drewN _ _ _) (congrArg (World.drewN _) (Nat.add_assoc _ _ _))⟩); rfl)))); try go_quiet (first | (go_at_call 101; (with_reducible refine (hI_.calls k (rd l0 2) t455 _ A4.out).mono ?_); rintro e w' ⟨rfl, ⟨nd, rfl⟩⟩; (try first | ((with_reducible refine ⟨?_, _, World.drewN_drewN _ _ _⟩); rfl) | ((with_reducible refine ⟨?_, _, Eq.trans (World.drewN_drewN _ _ _) (congrArg (World.drewN _) (Nat.add_assoc _ _ _))⟩); rfl)); have p456 : 0 ≤ (3 : Int) := (by omega); have q456 : 3 < (l0.length : Int) := dT; obtain ⟨ad456, e456, hx456_0⟩ := Kd.at_int HR0.out 3 p456 q456; obtain rfl : ad454 = ad456 := (by injection e456); (try simp only [show (3 : Int).toNat = 3 from rfl, Nat.reduceMul, Nat.reduceEqDiff, Go.Addr.add, ↓reduceIte] at hx456_0); have qi456 : (3 < l0.length) = True := eq_true (by omega); (try rw [show ((3 : Int)).toNat = 3 from rfl] at hx456_0); replace p456 := eq_true p456; replace q456 := eq_true q456) | (go_at_call 101; (with_reducible refine (hI_.calls k (rd l0 3) t457 _ A6.out).mono ?_); rintro e w' ⟨rfl, ⟨nd, rfl⟩⟩; (try first | ((with_reducible refine ⟨?_, _, World.drewN_drewN _ _ _⟩); rfl) | ((with_reducible refine ⟨?_, _, Eq.trans (World.drewN_drewN _ _ _) (congrArg (World.drewN _) (Nat.add_assoc _ _ _))⟩); rfl)); have p458 : 0 ≤ (4 : Int) := (by omega); have q458 : 4 < (l0.length : Int) := dT; obtain ⟨ad458, e458, hx458_0⟩ := Kd.at_int HR0.out 4 p458 q458; obtain rfl : ad454 = ad458 := (by injection e458); (try simp only [show (4 : Int).toNat = 4 from rfl, Nat.reduceMul, Nat.reduceEqDiff, Go.Addr.add, ↓reduceIte] at hx458_0); have qi458 : (4 < l0.length) = True := eq_true (by omega); (try rw [show ((4 : Int)).toNat = 4 from rfl] at hx458_0); replace p458 := eq_true p458; replace q458 := eq_true q458) | (go_at_call 101; (with_reducible refine (hI_.calls k (rd l0 4) t459 _ A8.out).mono ?_); rintro e w' ⟨rfl, ⟨nd, rfl⟩⟩; (try first | ((with_reducible refine ⟨?_, _, World.drewN_drewN _ _ _⟩); rfl) | ((with_reducible refine ⟨?_, _, Eq.trans (World.drewN_drewN _ _ _) (congrArg (World.drewN _) (Nat.add_assoc _ _ _))⟩); rfl)); have p460 : 0 ≤ (5 : Int) := (by omega); have q460 : 5 < (l0.length : Int) := dT; obtain ⟨ad460, e460, hx460_0⟩ := Kd.at_int HR0.out 5 p460 q460; obtain rfl : ad454 = ad460 := (by injection e460); (try simp only [show (5 : Int).toNat = 5 from rfl, Nat.reduceMul, Nat.reduceEqDiff, Go.Addr.add, ↓reduceIte] at hx460_0); have qi460 : (5 < l0.length) = True := eq_true (by omega); (try rw [show ((5 : Int)).toNat = 5 from rfl] at hx460_0); replace p460 := eq_true p460; replace q460 := eq_true q460) | (go_at_call 101; (with_reducible refine (hI_.calls k (rd l0 5) t461 _ A10.out).mono ?_); rintro e w' ⟨rfl, ⟨nd, rfl⟩⟩; (try first | ((with_reducible refine ⟨?_, _, World.drewN_drewN _ _ _⟩); rfl) | ((with_reducible refine ⟨?_, _, Eq.trans (World.drewN_drewN _ _ _) (congrArg (World.drewN _) (Nat.add_assoc _ _ _))⟩); rfl)))))
      go_ret2
      exact ⟨by first | rfl | (simp; done) | (simp [nil_ne_, nil_eq_]; done) | (simp [*]; done), zD⟩
     rw [if_neg c14] at H
     have c14b0 := beq_eq_false_iff_ne.mpr c14
     have c14b1 := bne_iff_ne.mpr c14
     simp only [Option.some.injEq, Prod.mk.injEq] at H
     obtain ⟨rfl, rfl⟩ := H
     have p454 : 0 ≤ (2 : Int) := (by omega)
     have q454 : 2 < (l0.length : Int) := dT
     obtain ⟨ad454, e454, hx454_0⟩ := Kd.at_int HR0.out 2 p454 q454
     cases e454
     (try simp only [show (2 : Int).toNat = 2 from rfl, Nat.reduceMul, Nat.reduceEqDiff, Go.Addr.add, ↓reduceIte] at hx454_0)
     have qi454 : (2 < l0.length) = True := eq_true (by omega)
     (try rw [show ((2 : Int)).toNat = 2 from rfl] at hx454_0)
     replace p454 := eq_true p454
     replace q454 := eq_true q454
     go_enter Tryz.func93, Tryz.ntmps93
     iterate 3 (try go_wp2_with (first | (go_at_call 101; (with_reducible refine (hI_.calls k (rd l0 2) t455 _ A4.out).mono ?_); rintro e w' ⟨rfl, ⟨nd, rfl⟩⟩; (try first | ((with_reducible refine ⟨?_, _, World.drewN_drewN _ _ _⟩); rfl) | ((with_reducible refine ⟨?_, _, Eq.trans (World.drewN_drewN _ _ _) (congrArg (World.drewN _) (Nat.add_assoc _ _ _))⟩); rfl)); have p456 : 0 ≤ (3 : Int) := (by omega); have q456 : 3 < (l0.length : Int) := dT; obtain ⟨ad456, e456, hx456_0⟩ := Kd.at_int HR0.out 3 p456 q456; obtain rfl : ad454 = ad456 := (by injection e456); (try simp only [show (3 : Int).toNat = 3 from rfl, Nat.reduceMul, Nat.reduceEqDiff, Go.Addr.add, ↓reduceIte] at hx456_0); have qi456 : (3 < l0.length) = True := eq_true (by omega); (try rw [show ((3 : Int)).toNat = 3 from rfl] at hx456_0); replace p456 := eq_true p456; replace q456 := eq_true q456) | (go_at_call 101; (with_reducible refine (hI_.calls k (rd l0 3) t457 _ A6.out).mono ?_); rintro e w' ⟨rfl, ⟨nd, rfl⟩⟩; (try first | ((with_reducible refine ⟨?_, _, World.drewN_drewN _ _ _⟩); rfl) | ((with_reducible refine ⟨?_, _, Eq.trans (World.drewN_drewN _ _ _) (congrArg (World.drewN _) (Nat.add_assoc _ _ _))⟩); rfl)); have p458 : 0 ≤ (4 : Int) := (by omega); have q458 : 4 < (l0.length : Int) := dT; obtain ⟨ad458, e458, hx458_0⟩ := Kd.at_int HR0.out 4 p458 q458; obtain rfl : ad454 = ad458 := (by injection e458); (try simp only [show (4 : Int).toNat = 4 from rfl, Nat.reduceMul, Nat.reduceEqDiff, Go.Addr.add, ↓reduceIte] at hx458_0); have qi458 : (4 < l0.length) = True := eq_true (by omega); (try rw [show ((4 : Int)).toNat = 4 from rfl] at hx458_0); replace p458 := eq_true p458; replace q458 := eq_true q458) | (go_at_call 101; (with_reducible refine (hI_.calls k (rd l0 4) t459 _ A8.out).mono ?_); rintro e w' ⟨rfl, ⟨nd, rfl⟩⟩; (try first | ((with_reducible refine ⟨?_, _, World.drewN_drewN _ _ _⟩); rfl) | ((with_reducible refine ⟨?_, _, Eq.trans (World.drewN_drewN _ _ _) (congrArg (World.drewN _) (Nat.add_assoc _ _ _))⟩); rfl)); have p460 : 0 ≤ (5 : Int) := (by omega); have q460 : 5 < (l0.length : Int) := dT; obtain ⟨ad460, e460, hx460_0⟩ := Kd.at_int HR0.out 5 p460 q460; obtain rfl : ad454 = ad460 := (by injection e460); (try simp only [show (5 : Int).toNat = 5 from rfl, Nat.reduceMul, Nat.reduceEqDiff, Go.Addr.add, ↓reduceIte] at hx460_0); have qi460 : (5 < l0.length) = True := eq_true (by omega); (try rw [show ((5 : Int)).toNat = 5 from rfl] at hx460_0); replace p460 := eq_true p460; replace q460 := eq_true q460) | (go_at_call 101; (with_reducible refine (hI_.calls k (rd l0 5) t461 _ A10.out).mono ?_); rintro e w' ⟨rfl, ⟨nd, rfl⟩⟩; (try first | ((with_reducible refine ⟨?_, _, World.drewN_drewN _ _ _⟩); rfl) | ((with_reducible refine ⟨?_, _, Eq.trans (World.drewN_drewN _ _ _) (congrArg (World.drewN _) (Nat.add_assoc _ _ _))⟩); rfl)))); try go_quiet (first | (go_at_call 101; (with_reducible refine (hI_.calls k (rd l0 2) t455 _ A4.out).mono ?_); rintro e w' ⟨rfl, ⟨nd, rfl⟩⟩; (try first | ((with_reducible refine ⟨?_, _, World.drewN_drewN _ _ _⟩); rfl) | ((with_reducible refine ⟨?_, _, Eq.trans (World.drewN_drewN _ _ _) (congrArg (World.drewN _) (Nat.add_assoc _ _ _))⟩); rfl)); have p456 : 0 ≤ (3 : Int) := (by omega); have q456 : 3 < (l0.length : Int) := dT; obtain ⟨ad456, e456, hx456_0⟩ := Kd.at_int HR0.out 3 p456 q456; obtain rfl : ad454 = ad456 := (by injection e456); (try simp only [show (3 : Int).toNat = 3 from rfl, Nat.reduceMul, Nat.reduceEqDiff, Go.Addr.add, ↓reduceIte] at hx456_0); have qi456 : (3 < l0.length) = True := eq_true (by omega); (try rw [show ((3 : Int)).toNat = 3 from rfl] at hx456_0); replace p456 := eq_true p456; replace q456 := eq_true q456) | (go_at_call 101; (with_reducible refine (hI_.calls k (rd l0 3) t457 _ A6.out).mono ?_); rintro e w' ⟨rfl, ⟨nd, rfl⟩⟩; (try first | ((with_reducible refine ⟨?_, _, World.drewN_drewN _ _ _⟩); rfl) | ((with_reducible refine ⟨?_, _, Eq.trans (World.drewN_drewN _ _ _) (congrArg (World.drewN _) (Nat.add_assoc _ _ _))⟩); rfl)); have p458 : 0 ≤ (4 : Int) := (by omega); have q458 : 4 < (l0.length : Int) := dT; obtain ⟨ad458, e458, hx458_0⟩ := Kd.at_int HR0.out 4 p458 q458; obtain rfl : ad454 = ad458 := (by injection e458); (try simp only [show (4 : Int).toNat = 4 from rfl, Nat.reduceMul, Nat.reduceEqDiff, Go.Addr.add, ↓reduceIte] at hx458_0); have qi458 : (4 < l0.length) = True := eq_true (by omega); (try rw [show ((4 : Int)).toNat = 4 from rfl] at hx458_0); replace p458 := eq_true p458; replace q458 := eq_true q458) | (go_at_call 101; (with_reducible refine (hI_.calls k (rd l0 4) t459 _ A8.out).mono ?_); rintro e w' ⟨rfl, ⟨nd, rfl⟩⟩; (try first | ((with_reducible refine ⟨?_, _, World.drewN_drewN _ _ _⟩); rfl) | ((with_reducible refine ⟨?_, _, Eq.trans (World.drewN_drewN _ _ _) (congrArg (World.drewN _) (Nat.add_assoc _ _ _))⟩); rfl)); have p460 : 0 ≤ (5 : Int) := (by omega); have q460 : 5 < (l0.length : Int) := dT; obtain ⟨ad460, e460, hx460_0⟩ := Kd.at_int HR0.out 5 p460 q460; obtain rfl : ad454 = ad460 := (by injection e460); (try simp only [show (5 : Int).toNat = 5 from rfl, Nat.reduceMul, Nat.reduceEqDiff, Go.Addr.add, ↓reduceIte] at hx460_0); have qi460 : (5 < l0.length) = True := eq_true (by omega); (try rw [show ((5 : Int)).toNat = 5 from rfl] at hx460_0); replace p460 := eq_true p460; replace q460 := eq_true q460) | (go_at_call 101; (with_reducible refine (hI_.calls k (rd l0 5) t461 _ A10.out).mono ?_); rintro e w' ⟨rfl, ⟨nd, rfl⟩⟩; (try first | ((with_reducible refine ⟨?_, _, World.drewN_drewN _ _ _⟩); rfl) | ((with_reducible refine ⟨?_, _, Eq.trans (World.drewN_drewN _ _ _) (congrArg (World.drewN _) (Nat.add_assoc _ _ _))⟩); rfl)))))
     go_ret2
     exact ⟨by first | rfl | (simp; done) | (simp [nil_ne_, nil_eq_]; done) | (simp [*]; done), zD⟩
    rw [if_neg c9] at H
    exact absurd H (by simp)
   rw [if_neg c7] at H
   exact absurd H (by simp)
  rw [if_neg c5] at H
  exact absurd H (by simp)
 rw [if_neg c3] at H
 exact absurd H (by simp)
def iUTFER_.f (a0 : Int) : Option (Bool) := if 55296 ≤ a0 then (some (decide (a0 ≤ 57343))) else (some false)
set_option maxHeartbeats 8000000 in
set_option maxRecDepth 100000 in
theorem iUTFER_.calls (a0 : Int) (r : Bool) (w : World) (h : iUTFER_.f a0 = some r) :
    Calls Tryz.prog 94 #[.int .i32 a0] w fun e w' => e = .returned (.bool r) ∧ Drawn0 w w' := by
 have H : (if 55296 ≤ a0 then (some (decide (a0 ≤ 57343))) else (some false)) = some r := h
 clear h
 by_cases c2 : 55296 ≤ a0
 ·
  rw [if_pos c2] at H
  have c2b0 := decide_eq_true c2
  clear c2
  obtain rfl := Option.some.inj H
  go_enter Tryz.func94, Tryz.ntmps94
  go_wp2
  go_ret
  exact ⟨by first | rfl | (simp; done) | (simp [nil_ne_, nil_eq_]; done) | (simp [*]; done), zD⟩
 rw [if_neg c2] at H
 have c2b0 := decide_eq_false c2
 clear c2
 obtain rfl := Option.some.inj H
 go_enter Tryz.func94, Tryz.ntmps94
 go_wp2
 go_ret
 exact ⟨by first | rfl | (simp; done) | (simp [nil_ne_, nil_eq_]; done) | (simp [*]; done), zD⟩
def cUTFS_.f (a0 : Int) (a1 : Int) : Option (Int) := some (wrap32 ((wrap32 (65536 + (wrap32 ((wrap32 (a0 - 55296)) * 1024)))) + (wrap32 (a1 - 56320))))
set_option maxHeartbeats 8000000 in
set_option maxRecDepth 100000 in
theorem cUTFS_.calls (a0 : Int) (a1 : Int) (r : Int) (w : World) (h : cUTFS_.f a0 a1 = some r) :
    Calls Tryz.prog 95 #[.int .i32 a0, .int .i32 a1] w fun e w' => e = .returned (.int .i32 r) ∧ Drawn0 w w' := by
 have H : (some (wrap32 ((wrap32 (65536 + (wrap32 ((wrap32 (a0 - 55296)) * 1024)))) + (wrap32 (a1 - 56320))))) = some r := h
 clear h
 obtain rfl := Option.some.inj H
 go_enter Tryz.func95, Tryz.ntmps95
 go_wp2
 go_ret
 exact ⟨by first | rfl | (simp; done) | (simp [nil_ne_, nil_eq_]; done) | (simp [*]; done), zD⟩
end Go.Proofs.YtpdohioobbfncaaGreatDoor.PFnJpWildStop