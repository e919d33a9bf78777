/- what the Go functions that the law FnJpWildStop reaches compute, each as a plain function, with the proof that the Go code computes just that; no condition beside those that each theorem states. -/
import Derived.Test.YtpdohioobbfncaaGreatDoorPFnJpWildStopx0
import Derived.Test.YtpdohioobbfncaaGreatDoorPFnJpWildStopx14
import Derived.Test.YtpdohioobbfncaaGreatDoorGXFnJpWildStop
namespace Go.Proofs.YtpdohioobbfncaaGreatDoor.PFnJpWildStop
open Go.RowKit Go.Proofs.YtpdohioobbfncaaGreatDoorW.PrintWords Go.Proofs.YtpdohioobbfncaaGreatDoorW.PrintLast Go.Proofs.YtpdohioobbfncaaGreatDoorW.PrintMore
set_option linter.unusedVariables false
set_option linter.unusedSimpArgs false
mutual
def bEC_.l0 : Nat → List Int → Int → Int → Int → Int → Int → Bool → Bool → Int → Option (Int)
  | 0, _, _, _, _, _, _, _, _, _ => none
  | k + 1, x1, x2, x3, x9, x10, x11, x447000, x447001, x447002 => if x10 < x11 then (bEC_.l1 k x1 x2 x3 x9 x10 x11 x447000 x447001 x447002) else (some (-1))
def bEC_.j2 : Nat → List Int → Int → Int → Int → Int → Int → Bool → Bool → Int → Option (Int)
  | 0, _, _, _, _, _, _, _, _, _ => none
  | k + 1, x1, x2, x3, x9, x10, x11, x447000, x447001, x447002 => if x10 ≥ x11 then (some (-1)) else (if 0 ≤ x10 then (if x10 < (x1.length : Int) then (if (rd x1 x10) = 34 then (bEC_.j3 k x1 x2 x3 x9 x10 x11 (rd x1 x10) ((rd x1 x10) == 34) x447000 x447001 x447002) else (bEC_.j3 k x1 x2 x3 x9 x10 x11 (rd x1 x10) ((rd x1 x10) == 39) x447000 x447001 x447002)) else (none)) else (none))
def bEC_.j3 : Nat → List Int → Int → Int → Int → Int → Int → Int → Bool → Bool → Bool → Int → Option (Int)
  | 0, _, _, _, _, _, _, _, _, _, _, _ => none
  | k + 1, x1, x2, x3, x9, x10, x11, x52, x53, x447000, x447001, x447002 => if x53 = true then (if 0 ≤ x10 then (if x10 < (x1.length : Int) then (if (rd x1 x10) = 39 then (bEC_.j4 k x1 x2 x3 x9 x10 x11 (rd x1 x10) (!x447000) x447000 x447001 x447002) else (bEC_.j4 k x1 x2 x3 x9 x10 x11 (rd x1 x10) false x447000 x447001 x447002)) else (none)) else (none)) else (if x52 = x2 then (bEC_.l0 k x1 x2 x3 (wrap64 (x9 + 1)) (wrap64 (x10 + 1)) x11 x447000 x447001 x447002) else (if x52 = x3 then (if (wrap64 (x9 - 1)) = 0 then (some (wrap64 (x10 + 1))) else (bEC_.l0 k x1 x2 x3 (wrap64 (x9 - 1)) (wrap64 (x10 + 1)) x11 x447000 x447001 x447002)) else (bEC_.l0 k x1 x2 x3 x9 (wrap64 (x10 + 1)) x11 x447000 x447001 x447002)))
def bEC_.j4 : Nat → List Int → Int → Int → Int → Int → Int → Int → Bool → Bool → Bool → Int → Option (Int)
  | 0, _, _, _, _, _, _, _, _, _, _, _ => none
  | k + 1, x1, x2, x3, x9, x10, x11, x13, x66, x447000, x447001, x447002 => if x66 = true then (bEC_.l0 k x1 x2 x3 x9 (wrap64 (x10 + 1)) x11 x447000 x447001 x447002) else (if 0 ≤ (wrap64 (x10 + 1)) then (if (wrap64 (x10 + 1)) ≤ (x1.length : Int) then ((sEC_.f k x447000 x447001 x447002 (x1.drop ((wrap64 (x10 + 1)) : Int).toNat) x13).bind fun bt451 => (if bt451.1 = (-1) then (some (-1)) else (bEC_.l0 k x1 x2 x3 x9 (wrap64 ((wrap64 (x10 + bt451.1)) + 1)) x11 x447000 x447001 x447002))) else (none)) else (none))
def bEC_.l1 : Nat → List Int → Int → Int → Int → Int → Int → Bool → Bool → Int → Option (Int)
  | 0, _, _, _, _, _, _, _, _, _ => none
  | k + 1, x1, x2, x3, x9, x10, x11, x447000, x447001, x447002 => if x10 < x11 then (if 0 ≤ x10 then (if x10 < (x1.length : Int) then (if (rd x1 x10) ≤ 32 then (bEC_.l1 k x1 x2 x3 x9 (wrap64 (x10 + 1)) x11 x447000 x447001 x447002) else (if (rd x1 x10) > 92 then (if (rd x1 x10) = x2 then (bEC_.j2 k x1 x2 x3 x9 x10 x11 x447000 x447001 x447002) else (if (rd x1 x10) = x3 then (bEC_.j2 k x1 x2 x3 x9 x10 x11 x447000 x447001 x447002) else (bEC_.l1 k x1 x2 x3 x9 (wrap64 (x10 + 1)) x11 x447000 x447001 x447002))) else (bEC_.j2 k x1 x2 x3 x9 x10 x11 x447000 x447001 x447002))) else (none)) else (none)) else (bEC_.j2 k x1 x2 x3 x9 x10 x11 x447000 x447001 x447002)
end
def bEC_.f (k : Nat) (a0_0 : Bool) (a0_1 : Bool) (a0_2 : Int) (l1 : List Int) (a2 : Int) (a3 : Int) : Option (Int) := bEC_.l0 k l1 a2 a3 0 0 (l1.length : Int) a0_0 a0_1 a0_2
def bEC_.T17 : Bool × List (List Nat × List Nat) := (true, [([], []), ([], []), ([], []), ([2], [2]), ([1, 3], [1, 3]), ([], []), ([0, 4, 5], [0, 4, 5]), ([6], [6]), ([7], [7]), ([7], [7]), ([8, 6, 0, 1, 2, 3, 4, 5, 6, 7, 8], [8]), ([9, 10, 0, 1, 2, 3, 4, 5, 6, 7, 8, 9, 10], [9])])
def bEC_.B17 : List Nat := [0, 0, 0, 4, 14, 0, 63, 127, 255, 255, 511, 2047]
theorem bEC_.tab17 : rtab .any (opsOf Tryz.f67 17) = bEC_.T17 := by kernel_rfl
theorem bEC_.bits17 : waitsOk bEC_.T17.2 bEC_.B17 = true := by kernel_rfl
set_option maxHeartbeats 8000000 in
set_option maxRecDepth 100000 in
theorem bEC_.calls (k : Nat) (a0_0 : Bool) (a0_1 : Bool) (a0_2 : Int) (A1 : Option Addr) (c1 : Nat) (l1 : List Int) (a2 : Int) (a3 : Int) (r : Int) (w : World) (hr1 : Kd.C (Kd.int .u8) w A1 l1.length l1) (hc1 : l1.length ≤ c1) (h : bEC_.f k a0_0 a0_1 a0_2 l1 a2 a3 = some r) (hG : Glob w) :
    Calls Tryz.prog 67 #[.agg #[.bool a0_0, .bool a0_1, .int .i64 a0_2], .slice A1 l1.length c1, .int .u8 a2, .int .u8 a3] w fun e w' => e = .returned (.int .i64 r) ∧ Below w.heap.size w w' := by
 have hu72 := Tryz.underlying72
 have HR1 := Aside0.mk hr1
 have HC1 := Aside0.mk hc1
 clear hr1 hc1
 have HB := Aside0.mk (Below.refl w.heap.size w)
 have HG := Aside0.mk hG
 clear hG
 have H : (bEC_.l0 k l1 a2 a3 0 0 (l1.length : Int) a0_0 a0_1 a0_2) = some r := h
 clear h
 have H' := Aside0.mk H
 clear H
 go_enter Tryz.func67, Tryz.ntmps67
 go_wp2_with (first | ((with_reducible refine gate_dst (N := 4) rfl ?_); refine zbo (N := 4) (cs := #[.bool a0_0, .bool a0_1, .int .i64 a0_2]) (t := 72) ?_; intro gb446 hg w5 hbox hb; have BK446 := Aside0.mk (hbox); have GW446 := zgw hg HB; have GE446 := zgw hg HB; replace HB := zbs HB hb; clear hb hbox hg))
 try simp only [Act.put, List.setIfInBounds_toArray, List.set_cons_succ, List.set_cons_zero]
 go_loopg [9, 10] k (fun kq v9 v10 w' => ∃ (x9_1 : Int) (x10_1 : Int), v9 = .int .i64 x9_1 ∧ v10 = .int .i64 x10_1 ∧ Aside0 (bEC_.l0 kq l1 a2 a3 x9_1 x10_1 (l1.length : Int) a0_0 a0_1 a0_2 = some r) ∧ Aside0 (kq ≤ k) ∧ Aside0 (w'.heap[gb446]? = some (.cells #[.bool a0_0, .bool a0_1, .int .i64 a0_2] 72 (0, 0))) ∧ Aside0 (Below w.heap.size w w'))
 case atStart => exact ⟨(0), (0), zE, zE, H', ⟨Nat.le_refl _⟩, ⟨zbx BK446⟩, ⟨zB HB.out⟩⟩
 case round =>
  clear H'
  (try clear c1)
  obtain ⟨x9_1, x10_1, rfl, rfl, HA, HK1, BK446, HB⟩ := hrel
  rcases gk with _ | k1
  · exact absurd HA.out (by simp [bEC_.l0])
  have H := HA.out
  clear HA
  simp only [bEC_.l0] at H
  by_cases c6 : x10_1 < (l1.length : Int)
  ·
   rw [if_pos c6] at H
   have c6b0 := decide_eq_true c6
   clear c6
   have HC7 := Aside0.mk H
   clear H
   go_upto_block 2 with (fail)
   go_cut [10] (fun v10 wc => ∃ (kq : Nat) (x10_6 : Int), v10 = .int .i64 x10_6 ∧ Aside0 (bEC_.j2 kq l1 a2 a3 x9_1 x10_6 (l1.length : Int) a0_0 a0_1 a0_2 = some r) ∧ Aside0 (kq ≤ k1) ∧ Aside0 (wc.heap[gb446]? = some (.cells #[.bool a0_0, .bool a0_1, .int .i64 a0_2] 72 (0, 0))) ∧ Aside0 (Below w.heap.size w wc))
   case first =>
    have H := HC7.out
    clear HC7
    have H' := Aside0.mk H
    clear H
    go_wp2
    try simp only [Act.put, List.setIfInBounds_toArray, List.set_cons_succ, List.set_cons_zero]
    go_loopg [10] k1 (fun kq v10 w' => ∃ (x10_2 : Int), v10 = .int .i64 x10_2 ∧ Aside0 (bEC_.l1 kq l1 a2 a3 x9_1 x10_2 (l1.length : Int) a0_0 a0_1 a0_2 = some r) ∧ Aside0 (kq ≤ k1) ∧ Aside0 (w'.heap[gb446]? = some (.cells #[.bool a0_0, .bool a0_1, .int .i64 a0_2] 72 (0, 0))) ∧ Aside0 (Below w.heap.size w w'))
    case atStart => exact ⟨(x10_1), zE, H', ⟨Nat.le_refl _⟩, ⟨zbx BK446⟩, ⟨zB HB.out⟩⟩
    case round =>
     clear H'
     (try clear c1); (try clear c6b0)
     obtain ⟨x10_2, rfl, HA, HK2, BK446, HB⟩ := hrel
     rcases gk with _ | k2
     · exact absurd HA.out (by simp [bEC_.l1])
     have H := HA.out
     clear HA
     simp only [bEC_.l1] at H
     by_cases c8 : x10_2 < (l1.length : Int)
     ·
      rw [if_pos c8] at H
      have c8b0 := decide_eq_true c8
      clear c8
      (first | rw [c8b0] | (simp only [i64_w, i32_w]; rw [c8b0]) | rw [c8b1] | skip)
      by_cases c9 : 0 ≤ x10_2
      ·
       rw [if_pos c9] at H
       have c9b0 := decide_eq_true c9
       clear c9
       by_cases c10 : x10_2 < (l1.length : Int)
       ·
        rw [if_pos c10] at H
        have c10b0 := decide_eq_true c10
        clear c10
        by_cases c11 : (rd l1 x10_2) ≤ 32
        ·
         rw [if_pos c11] at H
         have c11b0 := decide_eq_true c11
         clear c11
         have H' := Aside0.mk H
         clear H
         have p447 : 0 ≤ (x10_2 : Int) := dT
         have q447 : x10_2 < (l1.length : Int) := dT
         obtain ⟨ad447, e447, hx447_0⟩ := Kd.at_int HR1.out x10_2 p447 q447
         cases e447
         replace hx447_0 := zH HB.out hx447_0
         replace p447 := eq_true p447
         replace q447 := eq_true q447
         go_wp2
         go_roundg k2
         case measure => have := HK1.out; have := HK2.out; omega
         case rel => exact ⟨(wrap64 (x10_2 + 1)), zE, H', ⟨by have := HK1.out; have := HK2.out; omega⟩, ⟨zbx BK446⟩, ⟨zB HB.out⟩⟩
        rw [if_neg c11] at H
        have c11b0 := decide_eq_false c11
        clear c11
        by_cases c12 : (rd l1 x10_2) > 92
        ·
         rw [if_pos c12] at H
         have c12b0 := decide_eq_true c12
         clear c12
         by_cases c13 : (rd l1 x10_2) = a2
         ·
          rw [if_pos c13] at H
          have c13b0 := beq_iff_eq.mpr c13
          have c13b1 := bne_eq_false_iff_eq.mpr c13
          clear c13
          have H' := Aside0.mk H
          clear H
          have p447 : 0 ≤ (x10_2 : Int) := dT
          have q447 : x10_2 < (l1.length : Int) := dT
          obtain ⟨ad447, e447, hx447_0⟩ := Kd.at_int HR1.out x10_2 p447 q447
          cases e447
          replace hx447_0 := zH HB.out hx447_0
          replace p447 := eq_true p447
          replace q447 := eq_true q447
          go_wp2
          go_meet
          case rel => exact ⟨_, (x10_2), zE, H', ⟨by have := HK1.out; have := HK2.out; first | omega | exact Nat.le_refl _⟩, ⟨zbx BK446⟩, ⟨zB HB.out⟩⟩
         rw [if_neg c13] at H
         have c13b0 := beq_eq_false_iff_ne.mpr c13
         have c13b1 := bne_iff_ne.mpr c13
         by_cases c14 : (rd l1 x10_2) = a3
         ·
          rw [if_pos c14] at H
          have c14b0 := beq_iff_eq.mpr c14
          have c14b1 := bne_eq_false_iff_eq.mpr c14
          clear c14
          have H' := Aside0.mk H
          clear H
          have p447 : 0 ≤ (x10_2 : Int) := dT
          have q447 : x10_2 < (l1.length : Int) := dT
          obtain ⟨ad447, e447, hx447_0⟩ := Kd.at_int HR1.out x10_2 p447 q447
          cases e447
          replace hx447_0 := zH HB.out hx447_0
          replace p447 := eq_true p447
          replace q447 := eq_true q447
          go_wp2
          go_meet
          case rel => exact ⟨_, (x10_2), zE, H', ⟨by have := HK1.out; have := HK2.out; first | omega | exact Nat.le_refl _⟩, ⟨zbx BK446⟩, ⟨zB HB.out⟩⟩
         rw [if_neg c14] at H
         have c14b0 := beq_eq_false_iff_ne.mpr c14
         have c14b1 := bne_iff_ne.mpr c14
         have H' := Aside0.mk H
         clear H
         have p447 : 0 ≤ (x10_2 : Int) := dT
         have q447 : x10_2 < (l1.length : Int) := dT
         obtain ⟨ad447, e447, hx447_0⟩ := Kd.at_int HR1.out x10_2 p447 q447
         cases e447
         replace hx447_0 := zH HB.out hx447_0
         replace p447 := eq_true p447
         replace q447 := eq_true q447
         go_wp2
         go_roundg k2
         case measure => have := HK1.out; have := HK2.out; omega
         case rel => exact ⟨(wrap64 (x10_2 + 1)), zE, H', ⟨by have := HK1.out; have := HK2.out; omega⟩, ⟨zbx BK446⟩, ⟨zB HB.out⟩⟩
        rw [if_neg c12] at H
        have c12b0 := decide_eq_false c12
        clear c12
        have H' := Aside0.mk H
        clear H
        have p447 : 0 ≤ (x10_2 : Int) := dT
        have q447 : x10_2 < (l1.length : Int) := dT
        obtain ⟨ad447, e447, hx447_0⟩ := Kd.at_int HR1.out x10_2 p447 q447
        cases e447
        replace hx447_0 := zH HB.out hx447_0
        replace p447 := eq_true p447
        replace q447 := eq_true q447
        go_wp2
        go_meet
        case rel => exact ⟨_, (x10_2), zE, H', ⟨by have := HK1.out; have := HK2.out; first | omega | exact Nat.le_refl _⟩, ⟨zbx BK446⟩, ⟨zB HB.out⟩⟩
       rw [if_neg c10] at H
       exact absurd H (by simp)
      rw [if_neg c9] at H
      exact absurd H (by simp)
     rw [if_neg c8] at H
     have c8b0 := decide_eq_false c8
     clear c8
     (first | rw [c8b0] | (simp only [i64_w, i32_w]; rw [c8b0]) | rw [c8b1] | skip)
     have H' := Aside0.mk H
     clear H
     go_wp2
     go_meet
     case rel => exact ⟨_, (x10_2), zE, H', ⟨by have := HK1.out; have := HK2.out; first | omega | exact Nat.le_refl _⟩, ⟨zbx BK446⟩, ⟨zB HB.out⟩⟩
   clear HC7
   (try clear c1); (try clear c6b0)
   obtain ⟨kq, x10_6, rfl, HA, HJ6, BK446, HB⟩ := hcut
   rcases kq with _ | kj6
   · exact absurd HA.out (by simp [bEC_.j2])
   have H := HA.out
   clear HA
   simp only [bEC_.j2] at H
   by_cases c15 : x10_6 ≥ (l1.length : Int)
   ·
    rw [if_pos c15] at H
    have c15b0 := decide_eq_true c15
    clear c15
    obtain rfl := Option.some.inj H
    go_wp2
    go_ret
    exact ⟨zX, zB HB.out⟩
   rw [if_neg c15] at H
   have c15b0 := decide_eq_false c15
   clear c15
   by_cases c16 : 0 ≤ x10_6
   ·
    rw [if_pos c16] at H
    have c16b0 := decide_eq_true c16
    clear c16
    by_cases c17 : x10_6 < (l1.length : Int)
    ·
     rw [if_pos c17] at H
     have c17b0 := decide_eq_true c17
     clear c17
     have HC18 := Aside0.mk H
     clear H
     have p448 : 0 ≤ (x10_6 : Int) := dT
     have q448 : x10_6 < (l1.length : Int) := dT
     obtain ⟨ad448, e448, hx448_0⟩ := Kd.at_int HR1.out x10_6 p448 q448
     cases e448
     replace hx448_0 := zH HB.out hx448_0
     replace p448 := eq_true p448
     replace q448 := eq_true q448
     go_upto_if 53 with (fail)
     go_cut [53] (fun v53 wc => ∃ (kq : Nat) (x53_17 : Bool), v53 = .bool x53_17 ∧ Aside0 (bEC_.j3 kq l1 a2 a3 x9_1 x10_6 (l1.length : Int) (rd l1 x10_6) x53_17 a0_0 a0_1 a0_2 = some r) ∧ Aside0 (kq ≤ kj6) ∧ Aside0 (wc.heap[gb446]? = some (.cells #[.bool a0_0, .bool a0_1, .int .i64 a0_2] 72 (0, 0))) ∧ Aside0 (Below w.heap.size w wc))
     case first =>
      have H := HC18.out
      clear HC18
      by_cases c19 : (rd l1 x10_6) = 34
      ·
       rw [if_pos c19] at H
       have c19b0 := beq_iff_eq.mpr c19
       have c19b1 := bne_eq_false_iff_eq.mpr c19
       clear c19
       (first | rw [c19b0] | (simp only [i64_w, i32_w]; rw [c19b0]) | rw [c19b1] | skip)
       have H' := Aside0.mk H
       clear H
       go_wp2
       go_meet
       case rel => exact ⟨_, (((rd l1 x10_6) == 34)), zE, H', ⟨by have := HK1.out; have := HJ6.out; first | omega | exact Nat.le_refl _⟩, ⟨zbx BK446⟩, ⟨zB HB.out⟩⟩
      rw [if_neg c19] at H
      have c19b0 := beq_eq_false_iff_ne.mpr c19
      have c19b1 := bne_iff_ne.mpr c19
      (first | rw [c19b0] | (simp only [i64_w, i32_w]; rw [c19b0]) | rw [c19b1] | skip)
      have H' := Aside0.mk H
      clear H
      go_wp2
      go_meet
      case rel => exact ⟨_, (((rd l1 x10_6) == 39)), zE, H', ⟨by have := HK1.out; have := HJ6.out; first | omega | exact Nat.le_refl _⟩, ⟨zbx BK446⟩, ⟨zB HB.out⟩⟩
     clear HC18
     (try clear c1); (try clear c6b0); (try clear c15b0); (try clear c16b0); (try clear c17b0); (try clear hx448_0); (try clear p448); (try clear q448)
     obtain ⟨kq, x53_17, rfl, HA, HJ17, BK446, HB⟩ := hcut
     rcases kq with _ | kj17
     · exact absurd HA.out (by simp [bEC_.j3])
     have H := HA.out
     clear HA
     simp only [bEC_.j3] at H
     by_cases c20 : x53_17 = true
     ·
      subst c20
      rw [if_pos rfl] at H
      by_cases c21 : 0 ≤ x10_6
      ·
       rw [if_pos c21] at H
       have c21b0 := decide_eq_true c21
       clear c21
       by_cases c22 : x10_6 < (l1.length : Int)
       ·
        rw [if_pos c22] at H
        have c22b0 := decide_eq_true c22
        clear c22
        have HC23 := Aside0.mk H
        clear H
        have p449 : 0 ≤ (x10_6 : Int) := dT
        have q449 : x10_6 < (l1.length : Int) := dT
        obtain ⟨ad449, e449, hx449_0⟩ := Kd.at_int HR1.out x10_6 p449 q449
        obtain rfl : ad448 = ad449 := (by injection e449)
        replace hx449_0 := zH HB.out hx449_0
        replace p449 := eq_true p449
        replace q449 := eq_true q449
        go_upto_region 16 with (fail)
        go_cut [66] (fun v66 wc => ∃ (kq : Nat) (x66_22 : Bool), v66 = .bool x66_22 ∧ Aside0 (bEC_.j4 kq l1 a2 a3 x9_1 x10_6 (l1.length : Int) (rd l1 x10_6) x66_22 a0_0 a0_1 a0_2 = some r) ∧ Aside0 (kq ≤ kj17) ∧ Aside0 (wc.heap[gb446]? = some (.cells #[.bool a0_0, .bool a0_1, .int .i64 a0_2] 72 (0, 0))) ∧ Aside0 (Below w.heap.size w wc))
        case first =>
         have H := HC23.out
         clear HC23
         by_cases c24 : (rd l1 x10_6) = 39
         ·
          rw [if_pos c24] at H
          have c24b0 := beq_iff_eq.mpr c24
          have c24b1 := bne_eq_false_iff_eq.mpr c24
          clear c24
          (first | rw [c24b0] | (simp only [i64_w, i32_w]; rw [c24b0]) | rw [c24b1] | skip)
          have H' := Aside0.mk H
          clear H
          have hz25 := zc3 BK446.out
          go_wp2
          go_meet
          case rel => exact ⟨_, (!a0_0), zE, H', ⟨by have := HK1.out; have := HJ6.out; have := HJ17.out; first | omega | exact Nat.le_refl _⟩, ⟨zbx BK446⟩, ⟨zB HB.out⟩⟩
         rw [if_neg c24] at H
         have c24b0 := beq_eq_false_iff_ne.mpr c24
         have c24b1 := bne_iff_ne.mpr c24
         (first | rw [c24b0] | (simp only [i64_w, i32_w]; rw [c24b0]) | rw [c24b1] | skip)
         have H' := Aside0.mk H
         clear H
         go_wp2
         go_meet
         case rel => exact ⟨_, (false), zE, H', ⟨by have := HK1.out; have := HJ6.out; have := HJ17.out; first | omega | exact Nat.le_refl _⟩, ⟨zbx BK446⟩, ⟨zB HB.out⟩⟩
        clear HC23
        (try clear c1); (try clear c6b0); (try clear c15b0); (try clear c16b0); (try clear c17b0); (try clear c20); (try clear c21b0); (try clear c22b0); (try clear hx448_0); (try clear hx449_0); (try clear p448); (try clear p449); (try clear q448); (try clear q449)
        obtain ⟨kq, x66_22, rfl, HA, HJ22, BK446, HB⟩ := hcut
        rcases kq with _ | kj22
        · exact absurd HA.out (by simp [bEC_.j4])
        have H := HA.out
        clear HA
        simp only [bEC_.j4] at H
        by_cases c26 : x66_22 = true
        ·
         subst c26
         rw [if_pos rfl] at H
         have H' := Aside0.mk H
         clear H
         go_wp2
         go_roundg kj22
         case measure => have := HK1.out; have := HJ6.out; have := HJ17.out; have := HJ22.out; omega
         case rel => exact ⟨(x9_1), (wrap64 (x10_6 + 1)), zE, zE, H', ⟨by have := HK1.out; have := HJ6.out; have := HJ17.out; have := HJ22.out; omega⟩, ⟨zbx BK446⟩, ⟨zB HB.out⟩⟩
        replace c26 := Bool.eq_false_iff.mpr c26
        subst c26
        rw [if_neg Bool.false_ne_true] at H
        obtain ⟨ji27, hji27⟩ : ∃ j_ : Int, (wrap64 (x10_6 + 1)) = j_ := ⟨_, rfl⟩
        replace H : (if 0 ≤ (ji27) then (if (ji27) ≤ (l1.length : Int) then ((sEC_.f kj22 a0_0 a0_1 a0_2 (l1.drop ((ji27) : Int).toNat) (rd l1 x10_6)).bind fun bt451 => (if bt451.1 = (-1) then (some (-1)) else (bEC_.l0 kj22 l1 a2 a3 x9_1 (wrap64 ((wrap64 (x10_6 + bt451.1)) + 1)) (l1.length : Int) a0_0 a0_1 a0_2))) else (none)) else (none)) = some r := by first | (rw [hji27] at H; exact H) | (simp only [hji27] at H ⊢; exact H)
        have hji27w : (IntKind.i64.wrap (x10_6 + 1)) = ji27 := (i64_w _).trans hji27
        by_cases c28 : 0 ≤ (ji27)
        ·
         rw [if_pos c28] at H
         have c28b0 := eq_true c28
         have c28b1 := decide_eq_true c28
         clear c28
         by_cases c29 : (ji27) ≤ (l1.length : Int)
         ·
          rw [if_pos c29] at H
          have c29b0 := eq_true c29
          have c29b1 := decide_eq_true c29
          clear c29
          replace H := Option.bind_eq_some_iff.mp H
          obtain ⟨⟨t451, t452⟩, A300, H⟩ := H
          try dsimp only at H
          have A30 := Aside0.mk A300
          clear A300
          by_cases c31 : t451 = (-1)
          ·
           rw [if_pos c31] at H
           have c31b0 := beq_iff_eq.mpr c31
           have c31b1 := bne_eq_false_iff_eq.mpr c31
           clear c31
           obtain rfl := Option.some.inj H
           try go_wp2
           have n0_ := Aside0.mk (blk_drew BK446.out)
           have n1_ := Aside0.mk (below_drew1 HB.out)
           clear BK446
           clear HB
           have BK446 := n0_
           have HB := n1_
           clear n0_ n1_
           obtain ⟨i033, hi033, _, hsz33, _⟩ := info_parts info5
           obtain ⟨A33, hcut33, hA33, hC33⟩ := print_drop_of (P := Tryz.prog) (Value.int .u8) 0 51 5 .i64 Tryz.underlying51 hi033 hsz33 (some ad448) c1 l1 (ji27) (dT) (dT) HC1.out
           have HR450 := Aside0.mk (Kd.C_of_reads (h1 := fun _ => rfl) (hA33 _ (Kd.reads_of_C HR1.out)))
           have HC450 := Aside0.mk hC33
           clear hA33 hC33 hi033 hsz33
           refine start_ (n := 12) (S := fun w' => w'.cell? ⟨gb446, 0, none⟩ = some (.bool a0_0) ∧ w'.cell? ⟨gb446, 1, none⟩ = some (.bool a0_1) ∧ w'.cell? ⟨gb446, 2, none⟩ = some (.int .i64 a0_2)) (ds := []) #[false, false, false, false, false, false, false, false, false, false, false, false] (by kernel_rfl) rfl rfl ⟨(blk_cell BK446.out 0).trans rfl, (blk_cell BK446.out 1).trans rfl, (blk_cell BK446.out 2).trans rfl⟩ (fun hHeld => ?_); refine with_tabW bEC_.tab17 bEC_.bits17 (fun HT_ HW_ => ?_)
           generalize wc.drew = w32 at BK446 HB HR450 hHeld ⊢
           refine pure_ (i := 1) (N := some 69) (v := ?_) (a' := ?_) #[false, true, false, false, false, false, false, false, false, false, false, false] rfl rfl (any_of HT_.out (by kernel_rfl)) (fun _ _ _ h => h) (Or.inl ⟨by rfl, ?_⟩) ?_ ?_
           rotate_left
           ·
            intro w'
            go_simp
            with_reducible rfl
           rotate_left
           ·
            simp only [Act.put, List.setIfInBounds_toArray, List.set_cons_zero, List.set_cons_succ, i64_w, i32_w]
            rfl
           refine pure_ (i := 2) (N := some 70) (v := ?_) (a' := ?_) #[false, true, true, false, false, false, false, false, false, false, false, false] rfl rfl (any_of HT_.out (by kernel_rfl)) (fun _ _ _ h => h) (Or.inl ⟨by rfl, ?_⟩) ?_ ?_
           rotate_left
           ·
            intro w'
            go_simp
            with_reducible rfl
           rotate_left
           ·
            simp only [Act.put, List.setIfInBounds_toArray, List.set_cons_zero, List.set_cons_succ, i64_w, i32_w]
            rfl
           refine pure_ (i := 3) (N := some 71) (v := ?_) (a' := ?_) #[false, true, true, true, false, false, false, false, false, false, false, false] rfl rfl (any_of HT_.out (by kernel_rfl)) (fun _ _ _ h => h) (Or.inl ⟨by rfl, ?_⟩) ?_ ?_
           rotate_left
           ·
            intro w'
            go_simp
            with_reducible rfl
           rotate_left
           ·
            simp only [Act.put, List.setIfInBounds_toArray, List.set_cons_zero, List.set_cons_succ, i64_w, i32_w]
            rfl
           refine pure_ (i := 4) (N := some 72) (v := ?_) (a' := ?_) #[false, true, true, true, true, false, false, false, false, false, false, false] rfl rfl (any_of HT_.out (by kernel_rfl)) (fun _ _ _ h => h) (Or.inl ⟨by rfl, ?_⟩) ?_ ?_
           rotate_left
           ·
            intro w'
            go_simp
            with_reducible rfl
           rotate_left
           ·
            simp only [Act.put, List.setIfInBounds_toArray, List.set_cons_zero, List.set_cons_succ, i64_w, i32_w]
            rfl
           refine pure_ (i := 5) (N := some 73) (v := ?_) (a' := ?_) #[false, true, true, true, true, true, false, false, false, false, false, false] rfl rfl (any_of HT_.out (by kernel_rfl)) (fun _ _ _ h => h) (Or.inl ⟨by rfl, ?_⟩) ?_ ?_
           rotate_left
           ·
            intro w'
            go_simp
            with_reducible rfl
           rotate_left
           ·
            simp only [Act.put, List.setIfInBounds_toArray, List.set_cons_zero, List.set_cons_succ, i64_w, i32_w]
            rfl
           refine take_ (i := 0) (N := some 68) (v := ?_) (a' := ?_) #[true, true, true, true, true, true, false, false, false, false, false, false] rfl rfl (take_ofW HT_.out HW_.out (by kernel_rfl)) (fun _ _ _ h => h) (Or.inl ⟨by rfl, ?_⟩) hHeld ?_ ?_
           rotate_left
           ·
            rintro w' ⟨s0, s1, s2⟩
            go_simp
            with_reducible rfl
           rotate_left
           ·
            simp only [Act.put, List.setIfInBounds_toArray, List.set_cons_zero, List.set_cons_succ, i64_w, i32_w]
            rfl
           refine one_ (i := 6) (N := some 74) #[true, true, true, true, true, true, true, false, false, false, false, false] rfl rfl (one_of HT_.out (by kernel_rfl)) (by decide) (fun K hK => ?_)
           refine goes_ Tryz.func53 (by kernel_rfl) rfl #[.agg #[.bool a0_0, .bool a0_1, .int .i64 a0_2], .slice A33 (l1.drop ((ji27) : Int).toNat).length (c1 - (ji27).toNat), .int .u8 (rd l1 x10_6)] (by rfl) rfl rfl (by (try simp only [List.map_toArray, List.map_cons, List.map_nil]); first | done | (rw [show (l1.drop ((ji27) : Int).toNat).length = (l1.length - (ji27).toNat) from List.length_drop] <;> rfl) | (simp only [hji27]; rfl) | rfl | (simp only [List.length_drop, List.length_take]; rfl)) ?_
           with_reducible refine (sEC_.calls kj22 a0_0 a0_1 a0_2 _ _ (l1.drop ((ji27) : Int).toNat) (rd l1 x10_6) t451 t452 _ ?side1 ?side2 A30.out (HG.out.below (zB HB.out))).mono ?_
           (case side1 => exact zkc (Kd.C_below HR450.out HB.out))
           (case side2 => exact HC450.out)
           rintro e w34 ⟨rfl, hb⟩
           refine ⟨_, rfl, ?_⟩
           have n0_ := zbb BK446 hb
           have n1_ := zbs HB hb
           clear BK446
           clear HB
           have BK446 := n0_
           have HB := n1_
           clear n0_ n1_
           (try clear hb)
           (try clear hb2)
           (try clear hk)
           (try clear hi)
           refine hK.out _ _ ⟨(blk_cell BK446.out 0).trans rfl, (blk_cell BK446.out 1).trans rfl, (blk_cell BK446.out 2).trans rfl⟩ (fun hHeld => ?_)
           clear hK K
           refine norm_ (a' := ?_) ?_ ?_
           rotate_left
           ·
            show Act.put _ (some 74) _ = _
            simp only [Act.put, List.setIfInBounds_toArray, List.set_cons_zero, List.set_cons_succ, i64_w, i32_w]
            rfl
           refine pure_ (i := 7) (N := some 67) (v := ?_) (a' := ?_) #[true, true, true, true, true, true, true, true, false, false, false, false] rfl rfl (any_of HT_.out (by kernel_rfl)) (fun _ _ _ h => h) (Or.inl ⟨by rfl, ?_⟩) ?_ ?_
           rotate_left
           ·
            intro w'
            go_simp
            with_reducible rfl
           rotate_left
           ·
            simp only [Act.put, List.setIfInBounds_toArray, List.set_cons_zero, List.set_cons_succ, i64_w, i32_w]
            rfl
           refine pure_ (i := 8) (N := some 75) (v := ?_) (a' := ?_) #[true, true, true, true, true, true, true, true, true, false, false, false] rfl rfl (any_of HT_.out (by kernel_rfl)) (fun _ _ _ h => h) (Or.inl ⟨by rfl, ?_⟩) ?_ ?_
           rotate_left
           ·
            intro w'
            go_simp
            with_reducible rfl
           rotate_left
           ·
            simp only [Act.put, List.setIfInBounds_toArray, List.set_cons_zero, List.set_cons_succ, i64_w, i32_w]
            rfl
           refine pure_ (i := 9) (N := some 76) (v := ?_) (a' := ?_) #[true, true, true, true, true, true, true, true, true, true, false, false] rfl rfl (any_of HT_.out (by kernel_rfl)) (fun _ _ _ h => h) (Or.inl ⟨by rfl, ?_⟩) ?_ ?_
           rotate_left
           ·
            intro w'
            go_simp
            with_reducible rfl
           rotate_left
           ·
            simp only [Act.put, List.setIfInBounds_toArray, List.set_cons_zero, List.set_cons_succ, i64_w, i32_w]
            rfl
           refine pure_ (i := 10) (N := some 14) (v := ?_) (a' := ?_) #[true, true, true, true, true, true, true, true, true, true, true, false] rfl rfl (any_of HT_.out (by kernel_rfl)) (fun _ _ _ h => h) (Or.inl ⟨by rfl, ?_⟩) ?_ ?_
           rotate_left
           ·
            intro w'
            go_simp
            with_reducible rfl
           rotate_left
           ·
            simp only [Act.put, List.setIfInBounds_toArray, List.set_cons_zero, List.set_cons_succ, i64_w, i32_w]
            rfl
           refine pure_ (i := 11) (N := some 15) (v := ?_) (a' := ?_) #[true, true, true, true, true, true, true, true, true, true, true, true] rfl rfl (any_of HT_.out (by kernel_rfl)) (fun _ _ _ h => h) (Or.inl ⟨by rfl, ?_⟩) ?_ ?_
           rotate_left
           ·
            intro w'
            go_simp
            with_reducible rfl
           rotate_left
           ·
            simp only [Act.put, List.setIfInBounds_toArray, List.set_cons_zero, List.set_cons_succ, i64_w, i32_w]
            rfl
           refine done_ (done_of HT_.out (by kernel_rfl)) ?_
           try go_wp2
           go_ret
           exact ⟨by first | rfl | (simp [errX_none, errX_some] <;> rfl) | (simp only [← hji27]; first | rfl | (simp [errX_none, errX_some] <;> rfl)) | (simp [*, errX_none, errX_some] <;> rfl), zB HB.out⟩
          rw [if_neg c31] at H
          have c31b0 := beq_eq_false_iff_ne.mpr c31
          have c31b1 := bne_iff_ne.mpr c31
          have H' := Aside0.mk H
          clear H
          try go_wp2
          have n0_ := Aside0.mk (blk_drew BK446.out)
          have n1_ := Aside0.mk (below_drew1 HB.out)
          clear BK446
          clear HB
          have BK446 := n0_
          have HB := n1_
          clear n0_ n1_
          obtain ⟨i036, hi036, _, hsz36, _⟩ := info_parts info5
          obtain ⟨A36, hcut36, hA36, hC36⟩ := print_drop_of (P := Tryz.prog) (Value.int .u8) 0 51 5 .i64 Tryz.underlying51 hi036 hsz36 (some ad448) c1 l1 (ji27) (dT) (dT) HC1.out
          have HR450 := Aside0.mk (Kd.C_of_reads (h1 := fun _ => rfl) (hA36 _ (Kd.reads_of_C HR1.out)))
          have HC450 := Aside0.mk hC36
          clear hA36 hC36 hi036 hsz36
          refine start_ (n := 12) (S := fun w' => w'.cell? ⟨gb446, 0, none⟩ = some (.bool a0_0) ∧ w'.cell? ⟨gb446, 1, none⟩ = some (.bool a0_1) ∧ w'.cell? ⟨gb446, 2, none⟩ = some (.int .i64 a0_2)) (ds := []) #[false, false, false, false, false, false, false, false, false, false, false, false] (by kernel_rfl) rfl rfl ⟨(blk_cell BK446.out 0).trans rfl, (blk_cell BK446.out 1).trans rfl, (blk_cell BK446.out 2).trans rfl⟩ (fun hHeld => ?_); refine with_tabW bEC_.tab17 bEC_.bits17 (fun HT_ HW_ => ?_)
          generalize wc.drew = w35 at BK446 HB HR450 hHeld ⊢
          refine pure_ (i := 1) (N := some 69) (v := ?_) (a' := ?_) #[false, true, false, false, false, false, false, false, false, false, false, false] rfl rfl (any_of HT_.out (by kernel_rfl)) (fun _ _ _ h => h) (Or.inl ⟨by rfl, ?_⟩) ?_ ?_
          rotate_left
          ·
           intro w'
           go_simp
           with_reducible rfl
          rotate_left
          ·
           simp only [Act.put, List.setIfInBounds_toArray, List.set_cons_zero, List.set_cons_succ, i64_w, i32_w]
           rfl
          refine pure_ (i := 2) (N := some 70) (v := ?_) (a' := ?_) #[false, true, true, false, false, false, false, false, false, false, false, false] rfl rfl (any_of HT_.out (by kernel_rfl)) (fun _ _ _ h => h) (Or.inl ⟨by rfl, ?_⟩) ?_ ?_
          rotate_left
          ·
           intro w'
           go_simp
           with_reducible rfl
          rotate_left
          ·
           simp only [Act.put, List.setIfInBounds_toArray, List.set_cons_zero, List.set_cons_succ, i64_w, i32_w]
           rfl
          refine pure_ (i := 3) (N := some 71) (v := ?_) (a' := ?_) #[false, true, true, true, false, false, false, false, false, false, false, false] rfl rfl (any_of HT_.out (by kernel_rfl)) (fun _ _ _ h => h) (Or.inl ⟨by rfl, ?_⟩) ?_ ?_
          rotate_left
          ·
           intro w'
           go_simp
           with_reducible rfl
          rotate_left
          ·
           simp only [Act.put, List.setIfInBounds_toArray, List.set_cons_zero, List.set_cons_succ, i64_w, i32_w]
           rfl
          refine pure_ (i := 4) (N := some 72) (v := ?_) (a' := ?_) #[false, true, true, true, true, false, false, false, false, false, false, false] rfl rfl (any_of HT_.out (by kernel_rfl)) (fun _ _ _ h => h) (Or.inl ⟨by rfl, ?_⟩) ?_ ?_
          rotate_left
          ·
           intro w'
           go_simp
           with_reducible rfl
          rotate_left
          ·
           simp only [Act.put, List.setIfInBounds_toArray, List.set_cons_zero, List.set_cons_succ, i64_w, i32_w]
           rfl
          refine pure_ (i := 5) (N := some 73) (v := ?_) (a' := ?_) #[false, true, true, true, true, true, false, false, false, false, false, false] rfl rfl (any_of HT_.out (by kernel_rfl)) (fun _ _ _ h => h) (Or.inl ⟨by rfl, ?_⟩) ?_ ?_
          rotate_left
          ·
           intro w'
           go_simp
           with_reducible rfl
          rotate_left
          ·
           simp only [Act.put, List.setIfInBounds_toArray, List.set_cons_zero, List.set_cons_succ, i64_w, i32_w]
           rfl
          refine take_ (i := 0) (N := some 68) (v := ?_) (a' := ?_) #[true, true, true, true, true, true, false, false, false, false, false, false] rfl rfl (take_ofW HT_.out HW_.out (by kernel_rfl)) (fun _ _ _ h => h) (Or.inl ⟨by rfl, ?_⟩) hHeld ?_ ?_
          rotate_left
          ·
           rintro w' ⟨s0, s1, s2⟩
           go_simp
           with_reducible rfl
          rotate_left
          ·
           simp only [Act.put, List.setIfInBounds_toArray, List.set_cons_zero, List.set_cons_succ, i64_w, i32_w]
           rfl
          refine one_ (i := 6) (N := some 74) #[true, true, true, true, true, true, true, false, false, false, false, false] rfl rfl (one_of HT_.out (by kernel_rfl)) (by decide) (fun K hK => ?_)
          refine goes_ Tryz.func53 (by kernel_rfl) rfl #[.agg #[.bool a0_0, .bool a0_1, .int .i64 a0_2], .slice A36 (l1.drop ((ji27) : Int).toNat).length (c1 - (ji27).toNat), .int .u8 (rd l1 x10_6)] (by rfl) rfl rfl (by (try simp only [List.map_toArray, List.map_cons, List.map_nil]); first | done | (rw [show (l1.drop ((ji27) : Int).toNat).length = (l1.length - (ji27).toNat) from List.length_drop] <;> rfl) | (simp only [hji27]; rfl) | rfl | (simp only [List.length_drop, List.length_take]; rfl)) ?_
          with_reducible refine (sEC_.calls kj22 a0_0 a0_1 a0_2 _ _ (l1.drop ((ji27) : Int).toNat) (rd l1 x10_6) t451 t452 _ ?side1 ?side2 A30.out (HG.out.below (zB HB.out))).mono ?_
          (case side1 => exact zkc (Kd.C_below HR450.out HB.out))
          (case side2 => exact HC450.out)
          rintro e w37 ⟨rfl, hb⟩
          refine ⟨_, rfl, ?_⟩
          have n0_ := zbb BK446 hb
          have n1_ := zbs HB hb
          clear BK446
          clear HB
          have BK446 := n0_
          have HB := n1_
          clear n0_ n1_
          (try clear hb)
          (try clear hb2)
          (try clear hk)
          (try clear hi)
          refine hK.out _ _ ⟨(blk_cell BK446.out 0).trans rfl, (blk_cell BK446.out 1).trans rfl, (blk_cell BK446.out 2).trans rfl⟩ (fun hHeld => ?_)
          clear hK K
          refine norm_ (a' := ?_) ?_ ?_
          rotate_left
          ·
           show Act.put _ (some 74) _ = _
           simp only [Act.put, List.setIfInBounds_toArray, List.set_cons_zero, List.set_cons_succ, i64_w, i32_w]
           rfl
          refine pure_ (i := 7) (N := some 67) (v := ?_) (a' := ?_) #[true, true, true, true, true, true, true, true, false, false, false, false] rfl rfl (any_of HT_.out (by kernel_rfl)) (fun _ _ _ h => h) (Or.inl ⟨by rfl, ?_⟩) ?_ ?_
          rotate_left
          ·
           intro w'
           go_simp
           with_reducible rfl
          rotate_left
          ·
           simp only [Act.put, List.setIfInBounds_toArray, List.set_cons_zero, List.set_cons_succ, i64_w, i32_w]
           rfl
          refine pure_ (i := 8) (N := some 75) (v := ?_) (a' := ?_) #[true, true, true, true, true, true, true, true, true, false, false, false] rfl rfl (any_of HT_.out (by kernel_rfl)) (fun _ _ _ h => h) (Or.inl ⟨by rfl, ?_⟩) ?_ ?_
          rotate_left
          ·
           intro w'
           go_simp
           with_reducible rfl
          rotate_left
          ·
           simp only [Act.put, List.setIfInBounds_toArray, List.set_cons_zero, List.set_cons_succ, i64_w, i32_w]
           rfl
          refine pure_ (i := 9) (N := some 76) (v := ?_) (a' := ?_) #[true, true, true, true, true, true, true, true, true, true, false, false] rfl rfl (any_of HT_.out (by kernel_rfl)) (fun _ _ _ h => h) (Or.inl ⟨by rfl, ?_⟩) ?_ ?_
          rotate_left
          ·
           intro w'
           go_simp
           with_reducible rfl
          rotate_left
          ·
           simp only [Act.put, List.setIfInBounds_toArray, List.set_cons_zero, List.set_cons_succ, i64_w, i32_w]
           rfl
          refine pure_ (i := 10) (N := some 14) (v := ?_) (a' := ?_) #[true, true, true, true, true, true, true, true, true, true, true, false] rfl rfl (any_of HT_.out (by kernel_rfl)) (fun _ _ _ h => h) (Or.inl ⟨by rfl, ?_⟩) ?_ ?_
          rotate_left
          ·
           intro w'
           go_simp
           with_reducible rfl
          rotate_left
          ·
           simp only [Act.put, List.setIfInBounds_toArray, List.set_cons_zero, List.set_cons_succ, i64_w, i32_w]
           rfl
          refine pure_ (i := 11) (N := some 15) (v := ?_) (a' := ?_) #[true, true, true, true, true, true, true, true, true, true, true, true] rfl rfl (any_of HT_.out (by kernel_rfl)) (fun _ _ _ h => h) (Or.inl ⟨by rfl, ?_⟩) ?_ ?_
          rotate_left
          ·
           intro w'
           go_simp
           with_reducible rfl
          rotate_left
          ·
           simp only [Act.put, List.setIfInBounds_toArray, List.set_cons_zero, List.set_cons_succ, i64_w, i32_w]
           rfl
          refine done_ (done_of HT_.out (by kernel_rfl)) ?_
          try go_wp2
          go_roundg kj22
          case measure => have := HK1.out; have := HJ6.out; have := HJ17.out; have := HJ22.out; omega
          case rel => exact ⟨(x9_1), (wrap64 ((wrap64 (x10_6 + t451)) + 1)), zE, zE, (by first | exact H' | (rw [hji27]; exact H') | (simp only [hji27]; exact H') | (simp only [hji27] at H' ⊢; exact H')), ⟨by have := HK1.out; have := HJ6.out; have := HJ17.out; have := HJ22.out; omega⟩, ⟨zbx BK446⟩, ⟨zB HB.out⟩⟩
         rw [if_neg c29] at H
         exact absurd H (by simp)
        rw [if_neg c28] at H
        exact absurd H (by simp)
       rw [if_neg c22] at H
       exact absurd H (by simp)
      rw [if_neg c21] at H
      exact absurd H (by simp)
     replace c20 := Bool.eq_false_iff.mpr c20
     subst c20
     rw [if_neg Bool.false_ne_true] at H
     by_cases c38 : (rd l1 x10_6) = a2
     ·
      rw [if_pos c38] at H
      have c38b0 := beq_iff_eq.mpr c38
      have c38b1 := bne_eq_false_iff_eq.mpr c38
      clear c38
      have H' := Aside0.mk H
      clear H
      go_wp2
      go_roundg kj17
      case measure => have := HK1.out; have := HJ6.out; have := HJ17.out; omega
      case rel => exact ⟨(wrap64 (x9_1 + 1)), (wrap64 (x10_6 + 1)), zE, zE, H', ⟨by have := HK1.out; have := HJ6.out; have := HJ17.out; omega⟩, ⟨zbx BK446⟩, ⟨zB HB.out⟩⟩
     rw [if_neg c38] at H
     have c38b0 := beq_eq_false_iff_ne.mpr c38
     have c38b1 := bne_iff_ne.mpr c38
     by_cases c39 : (rd l1 x10_6) = a3
     ·
      rw [if_pos c39] at H
      have c39b0 := beq_iff_eq.mpr c39
      have c39b1 := bne_eq_false_iff_eq.mpr c39
      clear c39
      by_cases c40 : (wrap64 (x9_1 - 1)) = 0
      ·
       rw [if_pos c40] at H
       have c40b0 := beq_iff_eq.mpr c40
       have c40b1 := bne_eq_false_iff_eq.mpr c40
       clear c40
       obtain rfl := Option.some.inj H
       go_wp2
       go_ret
       exact ⟨zX, zB HB.out⟩
      rw [if_neg c40] at H
      have c40b0 := beq_eq_false_iff_ne.mpr c40
      have c40b1 := bne_iff_ne.mpr c40
      have H' := Aside0.mk H
      clear H
      go_wp2
      go_roundg kj17
      case measure => have := HK1.out; have := HJ6.out; have := HJ17.out; omega
      case rel => exact ⟨(wrap64 (x9_1 - 1)), (wrap64 (x10_6 + 1)), zE, zE, H', ⟨by have := HK1.out; have := HJ6.out; have := HJ17.out; omega⟩, ⟨zbx BK446⟩, ⟨zB HB.out⟩⟩
     rw [if_neg c39] at H
     have c39b0 := beq_eq_false_iff_ne.mpr c39
     have c39b1 := bne_iff_ne.mpr c39
     have H' := Aside0.mk H
     clear H
     go_wp2
     go_roundg kj17
     case measure => have := HK1.out; have := HJ6.out; have := HJ17.out; omega
     case rel => exact ⟨(x9_1), (wrap64 (x10_6 + 1)), zE, zE, H', ⟨by have := HK1.out; have := HJ6.out; have := HJ17.out; omega⟩, ⟨zbx BK446⟩, ⟨zB HB.out⟩⟩
    rw [if_neg c17] at H
    exact absurd H (by simp)
   rw [if_neg c16] at H
   exact absurd H (by simp)
  rw [if_neg c6] at H
  have c6b0 := decide_eq_false c6
  clear c6
  obtain rfl := Option.some.inj H
  go_wp2
  go_ret
  exact ⟨zX, zB HB.out⟩
end Go.Proofs.YtpdohioobbfncaaGreatDoor.PFnJpWildStop