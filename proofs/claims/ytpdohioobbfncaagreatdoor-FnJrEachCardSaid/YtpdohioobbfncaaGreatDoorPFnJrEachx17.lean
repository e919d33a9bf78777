/- what the Go functions that the law FnJrEach reaches compute, each as a plain function, with the proof that the Go code computes just that; no condition beside those that each theorem states. -/
import Derived.Test.YtpdohioobbfncaaGreatDoorPFnJrEachx0
namespace Go.Proofs.YtpdohioobbfncaaGreatDoor.PFnJrEach
open Go.RowKit Go.Proofs.YtpdohioobbfncaaGreatDoorW.PrintWords Go.Proofs.YtpdohioobbfncaaGreatDoorW.PrintLast Go.Proofs.YtpdohioobbfncaaGreatDoorW.PrintMore
set_option linter.unusedVariables false
set_option linter.unusedSimpArgs false
def tE_.l0 : Nat → List Int → List Int → Int → Int → Option (Int)
  | 0, _, _, _, _ => none
  | k + 1, x0, x5, x6, x7 => if x7 < x6 then (if 0 ≤ x7 then (if x7 < (x5.length : Int) then (if (rd x5 x7) = 32 then (some x7) else (if (rd x5 x7) = 10 then (some x7) else (if (rd x5 x7) = 13 then (some x7) else (if (rd x5 x7) = 9 then (some x7) else (if (rd x5 x7) = 44 then (some x7) else (if (rd x5 x7) = 125 then (some x7) else (if (rd x5 x7) = 93 then (some x7) else (tE_.l0 k x0 x5 x6 (wrap64 (x7 + 1)))))))))) else (none)) else (none)) else (some (x0.length : Int))
def tE_.f (k : Nat) (l0 : List Int) : Option (Int) := tE_.l0 k l0 l0 (l0.length : Int) 0
set_option maxHeartbeats 8000000 in
set_option maxRecDepth 100000 in
theorem tE_.calls (k : Nat) (A0 : Option Addr) (c0 : Nat) (l0 : List Int) (r : Int) (w : World) (hr0 : Kd.C (Kd.int .u8) w A0 l0.length l0) (hc0 : l0.length ≤ c0) (h : tE_.f k l0 = some r) :
    Calls Tryz.prog 83 #[.slice A0 l0.length c0] w fun e w' => e = .returned (.int .i64 r) ∧ Drawn0 w w' := by
 have HR0 := Aside0.mk hr0
 have HC0 := Aside0.mk hc0
 clear hr0 hc0
 have H : (tE_.l0 k l0 l0 (l0.length : Int) 0) = some r := h
 clear h
 have H' := Aside0.mk H
 clear H
 go_enter Tryz.func83, Tryz.ntmps83
 go_wp2
 try simp only [Act.put, List.setIfInBounds_toArray, List.set_cons_succ, List.set_cons_zero]
 go_loopg [7] k (fun kq v7 w' => ∃ (x7_1 : Int), v7 = .int .i64 x7_1 ∧ Aside0 (tE_.l0 kq l0 l0 (l0.length : Int) x7_1 = some r) ∧ Aside0 (kq ≤ k) ∧ Drawn0 w w')
 case atStart => exact ⟨(0), zE, H', ⟨Nat.le_refl _⟩, zD⟩
 case round =>
  clear H'
  obtain ⟨x7_1, rfl, HA, HK1, ⟨m1, rfl⟩⟩ := hrel
  rcases gk with _ | k1
  · exact absurd HA.out (by simp [tE_.l0])
  have H := HA.out
  clear HA
  simp only [tE_.l0] at H
  by_cases c2 : x7_1 < (l0.length : Int)
  ·
   rw [if_pos c2] at H
   have c2b0 := decide_eq_true c2
   clear c2
   by_cases c3 : 0 ≤ x7_1
   ·
    rw [if_pos c3] at H
    have c3b0 := decide_eq_true c3
    clear c3
    by_cases c4 : x7_1 < (l0.length : Int)
    ·
     rw [if_pos c4] at H
     have c4b0 := decide_eq_true c4
     clear c4
     by_cases c5 : (rd l0 x7_1) = 32
     ·
      rw [if_pos c5] at H
      have c5b0 := beq_iff_eq.mpr c5
      have c5b1 := bne_eq_false_iff_eq.mpr c5
      clear c5
      obtain rfl := Option.some.inj H
      have p461 : 0 ≤ (x7_1 : Int) := dT
      have q461 : x7_1 < (l0.length : Int) := dT
      obtain ⟨ad461, e461, hx461_0⟩ := Kd.at_int HR0.out x7_1 p461 q461
      cases e461
      replace p461 := eq_true p461
      replace q461 := eq_true q461
      go_wp2
      go_ret
      exact ⟨by first | rfl | (simp; done) | (simp [nil_ne_, nil_eq_]; done) | (simp [*]; done), zD⟩
     rw [if_neg c5] at H
     have c5b0 := beq_eq_false_iff_ne.mpr c5
     have c5b1 := bne_iff_ne.mpr c5
     by_cases c6 : (rd l0 x7_1) = 10
     ·
      rw [if_pos c6] at H
      have c6b0 := beq_iff_eq.mpr c6
      have c6b1 := bne_eq_false_iff_eq.mpr c6
      clear c6
      obtain rfl := Option.some.inj H
      have p461 : 0 ≤ (x7_1 : Int) := dT
      have q461 : x7_1 < (l0.length : Int) := dT
      obtain ⟨ad461, e461, hx461_0⟩ := Kd.at_int HR0.out x7_1 p461 q461
      cases e461
      replace p461 := eq_true p461
      replace q461 := eq_true q461
      go_wp2
      go_ret
      exact ⟨by first | rfl | (simp; done) | (simp [nil_ne_, nil_eq_]; done) | (simp [*]; done), zD⟩
     rw [if_neg c6] at H
     have c6b0 := beq_eq_false_iff_ne.mpr c6
     have c6b1 := bne_iff_ne.mpr c6
     by_cases c7 : (rd l0 x7_1) = 13
     ·
      rw [if_pos c7] at H
      have c7b0 := beq_iff_eq.mpr c7
      have c7b1 := bne_eq_false_iff_eq.mpr c7
      clear c7
      obtain rfl := Option.some.inj H
      have p461 : 0 ≤ (x7_1 : Int) := dT
      have q461 : x7_1 < (l0.length : Int) := dT
      obtain ⟨ad461, e461, hx461_0⟩ := Kd.at_int HR0.out x7_1 p461 q461
      cases e461
      replace p461 := eq_true p461
      replace q461 := eq_true q461
      go_wp2
      go_ret
      exact ⟨by first | rfl | (simp; done) | (simp [nil_ne_, nil_eq_]; done) | (simp [*]; done), zD⟩
     rw [if_neg c7] at H
     have c7b0 := beq_eq_false_iff_ne.mpr c7
     have c7b1 := bne_iff_ne.mpr c7
     by_cases c8 : (rd l0 x7_1) = 9
     ·
      rw [if_pos c8] at H
      have c8b0 := beq_iff_eq.mpr c8
      have c8b1 := bne_eq_false_iff_eq.mpr c8
      clear c8
      obtain rfl := Option.some.inj H
      have p461 : 0 ≤ (x7_1 : Int) := dT
      have q461 : x7_1 < (l0.length : Int) := dT
      obtain ⟨ad461, e461, hx461_0⟩ := Kd.at_int HR0.out x7_1 p461 q461
      cases e461
      replace p461 := eq_true p461
      replace q461 := eq_true q461
      go_wp2
      go_ret
      exact ⟨by first | rfl | (simp; done) | (simp [nil_ne_, nil_eq_]; done) | (simp [*]; done), zD⟩
     rw [if_neg c8] at H
     have c8b0 := beq_eq_false_iff_ne.mpr c8
     have c8b1 := bne_iff_ne.mpr c8
     by_cases c9 : (rd l0 x7_1) = 44
     ·
      rw [if_pos c9] at H
      have c9b0 := beq_iff_eq.mpr c9
      have c9b1 := bne_eq_false_iff_eq.mpr c9
      clear c9
      obtain rfl := Option.some.inj H
      have p461 : 0 ≤ (x7_1 : Int) := dT
      have q461 : x7_1 < (l0.length : Int) := dT
      obtain ⟨ad461, e461, hx461_0⟩ := Kd.at_int HR0.out x7_1 p461 q461
      cases e461
      replace p461 := eq_true p461
      replace q461 := eq_true q461
      go_wp2
      go_ret
      exact ⟨by first | rfl | (simp; done) | (simp [nil_ne_, nil_eq_]; done) | (simp [*]; done), zD⟩
     rw [if_neg c9] at H
     have c9b0 := beq_eq_false_iff_ne.mpr c9
     have c9b1 := bne_iff_ne.mpr c9
     by_cases c10 : (rd l0 x7_1) = 125
     ·
      rw [if_pos c10] at H
      have c10b0 := beq_iff_eq.mpr c10
      have c10b1 := bne_eq_false_iff_eq.mpr c10
      clear c10
      obtain rfl := Option.some.inj H
      have p461 : 0 ≤ (x7_1 : Int) := dT
      have q461 : x7_1 < (l0.length : Int) := dT
      obtain ⟨ad461, e461, hx461_0⟩ := Kd.at_int HR0.out x7_1 p461 q461
      cases e461
      replace p461 := eq_true p461
      replace q461 := eq_true q461
      go_wp2
      go_ret
      exact ⟨by first | rfl | (simp; done) | (simp [nil_ne_, nil_eq_]; done) | (simp [*]; done), zD⟩
     rw [if_neg c10] at H
     have c10b0 := beq_eq_false_iff_ne.mpr c10
     have c10b1 := bne_iff_ne.mpr c10
     by_cases c11 : (rd l0 x7_1) = 93
     ·
      rw [if_pos c11] at H
      have c11b0 := beq_iff_eq.mpr c11
      have c11b1 := bne_eq_false_iff_eq.mpr c11
      clear c11
      obtain rfl := Option.some.inj H
      have p461 : 0 ≤ (x7_1 : Int) := dT
      have q461 : x7_1 < (l0.length : Int) := dT
      obtain ⟨ad461, e461, hx461_0⟩ := Kd.at_int HR0.out x7_1 p461 q461
      cases e461
      replace p461 := eq_true p461
      replace q461 := eq_true q461
      go_wp2
      go_ret
      exact ⟨by first | rfl | (simp; done) | (simp [nil_ne_, nil_eq_]; done) | (simp [*]; done), zD⟩
     rw [if_neg c11] at H
     have c11b0 := beq_eq_false_iff_ne.mpr c11
     have c11b1 := bne_iff_ne.mpr c11
     have H' := Aside0.mk H
     clear H
     have p461 : 0 ≤ (x7_1 : Int) := dT
     have q461 : x7_1 < (l0.length : Int) := dT
     obtain ⟨ad461, e461, hx461_0⟩ := Kd.at_int HR0.out x7_1 p461 q461
     cases e461
     replace p461 := eq_true p461
     replace q461 := eq_true q461
     go_wp2
     go_roundg k1
     case measure => have := HK1.out; omega
     case rel => exact ⟨(wrap64 (x7_1 + 1)), zE, H', ⟨by have := HK1.out; omega⟩, zD⟩
    rw [if_neg c4] at H
    exact absurd H (by simp)
   rw [if_neg c3] at H
   exact absurd H (by simp)
  rw [if_neg c2] at H
  have c2b0 := decide_eq_false c2
  clear c2
  obtain rfl := Option.some.inj H
  go_wp2
  go_ret
  exact ⟨by first | rfl | (simp; done) | (simp [nil_ne_, nil_eq_]; done) | (simp [*]; done), zD⟩
end Go.Proofs.YtpdohioobbfncaaGreatDoor.PFnJrEach