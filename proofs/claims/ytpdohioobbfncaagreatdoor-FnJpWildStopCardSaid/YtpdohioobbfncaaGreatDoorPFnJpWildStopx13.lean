/- what the Go functions that the law FnJpWildStop reaches compute, each as a plain function, with the proof that the Go code computes just that; no condition beside those that each theorem states. -/
import Derived.Test.YtpdohioobbfncaaGreatDoorPFnJpWildStopx0
namespace Go.Proofs.YtpdohioobbfncaaGreatDoor.PFnJpWildStop
open Go.RowKit Go.Proofs.YtpdohioobbfncaaGreatDoorW.PrintWords Go.Proofs.YtpdohioobbfncaaGreatDoorW.PrintLast Go.Proofs.YtpdohioobbfncaaGreatDoorW.PrintMore
set_option linter.unusedVariables false
set_option linter.unusedSimpArgs false
def UU_.f (a0 : Unit) (l1 : List Int) : Option (Int) := if 7 < (l1.length : Int) then (if 0 < (l1.length : Int) then (if 1 < (l1.length : Int) then (if 2 < (l1.length : Int) then (if 3 < (l1.length : Int) then (if 4 < (l1.length : Int) then (if 5 < (l1.length : Int) then (if 6 < (l1.length : Int) then (some (Go.bits .or .u64 (Go.bits .or .u64 (Go.bits .or .u64 (Go.bits .or .u64 (Go.bits .or .u64 (Go.bits .or .u64 (Go.bits .or .u64 (IntKind.u64.wrap (rd l1 0)) (IntKind.u64.wrap ((IntKind.u64.wrap (rd l1 1)) * 256))) (IntKind.u64.wrap ((IntKind.u64.wrap (rd l1 2)) * 65536))) (IntKind.u64.wrap ((IntKind.u64.wrap (rd l1 3)) * 16777216))) (IntKind.u64.wrap ((IntKind.u64.wrap (rd l1 4)) * 4294967296))) (IntKind.u64.wrap ((IntKind.u64.wrap (rd l1 5)) * 1099511627776))) (IntKind.u64.wrap ((IntKind.u64.wrap (rd l1 6)) * 281474976710656))) (IntKind.u64.wrap ((IntKind.u64.wrap (rd l1 7)) * 72057594037927936)))) else (none)) else (none)) else (none)) else (none)) else (none)) else (none)) else (none)) else (none)
set_option maxHeartbeats 8000000 in
set_option maxRecDepth 100000 in
theorem UU_.calls (a0 : Unit) (A1 : Option Addr) (c1 : Nat) (l1 : List Int) (r : Int) (w : World) (hr1 : Kd.C (Kd.int .u8) w A1 l1.length l1) (hc1 : l1.length ≤ c1) (h : UU_.f a0 l1 = some r) :
    Calls Tryz.prog 73 #[.agg #[], .slice A1 l1.length c1] w fun e w' => e = .returned (.int .u64 r) ∧ Below w.heap.size w w' := by
 have HR1 := Aside0.mk hr1
 have HC1 := Aside0.mk hc1
 clear hr1 hc1
 have HB := Aside0.mk (Below.refl w.heap.size w)
 have H : (if 7 < (l1.length : Int) then (if 0 < (l1.length : Int) then (if 1 < (l1.length : Int) then (if 2 < (l1.length : Int) then (if 3 < (l1.length : Int) then (if 4 < (l1.length : Int) then (if 5 < (l1.length : Int) then (if 6 < (l1.length : Int) then (some (Go.bits .or .u64 (Go.bits .or .u64 (Go.bits .or .u64 (Go.bits .or .u64 (Go.bits .or .u64 (Go.bits .or .u64 (Go.bits .or .u64 (IntKind.u64.wrap (rd l1 0)) (IntKind.u64.wrap ((IntKind.u64.wrap (rd l1 1)) * 256))) (IntKind.u64.wrap ((IntKind.u64.wrap (rd l1 2)) * 65536))) (IntKind.u64.wrap ((IntKind.u64.wrap (rd l1 3)) * 16777216))) (IntKind.u64.wrap ((IntKind.u64.wrap (rd l1 4)) * 4294967296))) (IntKind.u64.wrap ((IntKind.u64.wrap (rd l1 5)) * 1099511627776))) (IntKind.u64.wrap ((IntKind.u64.wrap (rd l1 6)) * 281474976710656))) (IntKind.u64.wrap ((IntKind.u64.wrap (rd l1 7)) * 72057594037927936)))) else (none)) else (none)) else (none)) else (none)) else (none)) else (none)) else (none)) else (none)) = some r := h
 clear h
 by_cases c3 : 7 < (l1.length : Int)
 ·
  rw [if_pos c3] at H
  have c3b0 := decide_eq_true c3
  have c3b1 : decide (7 < l1.length) = true := decide_eq_true (by omega)
  clear c3
  by_cases c4 : 0 < (l1.length : Int)
  ·
   rw [if_pos c4] at H
   have c4b0 := decide_eq_true c4
   have c4b1 : decide (0 < l1.length) = true := decide_eq_true (by omega)
   clear c4
   by_cases c5 : 1 < (l1.length : Int)
   ·
    rw [if_pos c5] at H
    have c5b0 := decide_eq_true c5
    have c5b1 : decide (1 < l1.length) = true := decide_eq_true (by omega)
    clear c5
    by_cases c6 : 2 < (l1.length : Int)
    ·
     rw [if_pos c6] at H
     have c6b0 := decide_eq_true c6
     have c6b1 : decide (2 < l1.length) = true := decide_eq_true (by omega)
     clear c6
     by_cases c7 : 3 < (l1.length : Int)
     ·
      rw [if_pos c7] at H
      have c7b0 := decide_eq_true c7
      have c7b1 : decide (3 < l1.length) = true := decide_eq_true (by omega)
      clear c7
      by_cases c8 : 4 < (l1.length : Int)
      ·
       rw [if_pos c8] at H
       have c8b0 := decide_eq_true c8
       have c8b1 : decide (4 < l1.length) = true := decide_eq_true (by omega)
       clear c8
       by_cases c9 : 5 < (l1.length : Int)
       ·
        rw [if_pos c9] at H
        have c9b0 := decide_eq_true c9
        have c9b1 : decide (5 < l1.length) = true := decide_eq_true (by omega)
        clear c9
        by_cases c10 : 6 < (l1.length : Int)
        ·
         rw [if_pos c10] at H
         have c10b0 := decide_eq_true c10
         have c10b1 : decide (6 < l1.length) = true := decide_eq_true (by omega)
         clear c10
         obtain rfl := Option.some.inj H
         go_enter Tryz.func73, Tryz.ntmps73
         iterate 3 (try go_wp2_with (first | ((with_reducible refine gate_dst (N := 2) rfl ?_); refine zbo (N := 2) (cs := #[]) (t := 115) ?_; intro gb429 hg w11 hbox hb; have BK429 := Aside0.mk (hbox); have GW429 := zgw hg HB; have GE429 := zgw hg HB; replace HB := zbs HB hb; clear hb hbox hg; have p430 : 0 ≤ (7 : Int) := (by omega); have q430 : 7 < (l1.length : Int) := dT; obtain ⟨ad430, e430, hx430_0⟩ := Kd.at_int HR1.out 7 p430 q430; cases e430; (try simp only [show (7 : Int).toNat = 7 from rfl, Nat.reduceMul, Nat.reduceEqDiff, Go.Addr.add, ↓reduceIte] at hx430_0); have qi430 : (7 < l1.length) = True := eq_true (by omega); (try rw [show ((7 : Int)).toNat = 7 from rfl] at hx430_0); replace hx430_0 := zH HB.out hx430_0; replace p430 := eq_true p430; replace q430 := eq_true q430; have p431 : 0 ≤ (0 : Int) := (by omega); have q431 : 0 < (l1.length : Int) := dT; obtain ⟨ad431, e431, hx431_0⟩ := Kd.at_int HR1.out 0 p431 q431; obtain rfl : ad430 = ad431 := (by injection e431); have qi431 : (0 < l1.length) = True := eq_true (by omega); (try rw [show ((0 : Int)).toNat = 0 from rfl] at hx431_0); (try rw [Addr.add_zero'] at hx431_0); replace hx431_0 := zH HB.out hx431_0; replace p431 := eq_true p431; replace q431 := eq_true q431; have p432 : 0 ≤ (1 : Int) := (by omega); have q432 : 1 < (l1.length : Int) := dT; obtain ⟨ad432, e432, hx432_0⟩ := Kd.at_int HR1.out 1 p432 q432; obtain rfl : ad430 = ad432 := (by injection e432); (try simp only [show (1 : Int).toNat = 1 from rfl, Nat.reduceMul, Nat.reduceEqDiff, Go.Addr.add, ↓reduceIte] at hx432_0); have qi432 : (1 < l1.length) = True := eq_true (by omega); (try rw [show ((1 : Int)).toNat = 1 from rfl] at hx432_0); replace hx432_0 := zH HB.out hx432_0; replace p432 := eq_true p432; replace q432 := eq_true q432; have p433 : 0 ≤ (2 : Int) := (by omega); have q433 : 2 < (l1.length : Int) := dT; obtain ⟨ad433, e433, hx433_0⟩ := Kd.at_int HR1.out 2 p433 q433; obtain rfl : ad430 = ad433 := (by injection e433); (try simp only [show (2 : Int).toNat = 2 from rfl, Nat.reduceMul, Nat.reduceEqDiff, Go.Addr.add, ↓reduceIte] at hx433_0); have qi433 : (2 < l1.length) = True := eq_true (by omega); (try rw [show ((2 : Int)).toNat = 2 from rfl] at hx433_0); replace hx433_0 := zH HB.out hx433_0; replace p433 := eq_true p433; replace q433 := eq_true q433; have p434 : 0 ≤ (3 : Int) := (by omega); have q434 : 3 < (l1.length : Int) := dT; obtain ⟨ad434, e434, hx434_0⟩ := Kd.at_int HR1.out 3 p434 q434; obtain rfl : ad430 = ad434 := (by injection e434); (try simp only [show (3 : Int).toNat = 3 from rfl, Nat.reduceMul, Nat.reduceEqDiff, Go.Addr.add, ↓reduceIte] at hx434_0); have qi434 : (3 < l1.length) = True := eq_true (by omega); (try rw [show ((3 : Int)).toNat = 3 from rfl] at hx434_0); replace hx434_0 := zH HB.out hx434_0; replace p434 := eq_true p434; replace q434 := eq_true q434; have p435 : 0 ≤ (4 : Int) := (by omega); have q435 : 4 < (l1.length : Int) := dT; obtain ⟨ad435, e435, hx435_0⟩ := Kd.at_int HR1.out 4 p435 q435; obtain rfl : ad430 = ad435 := (by injection e435); (try simp only [show (4 : Int).toNat = 4 from rfl, Nat.reduceMul, Nat.reduceEqDiff, Go.Addr.add, ↓reduceIte] at hx435_0); have qi435 : (4 < l1.length) = True := eq_true (by omega); (try rw [show ((4 : Int)).toNat = 4 from rfl] at hx435_0); replace hx435_0 := zH HB.out hx435_0; replace p435 := eq_true p435; replace q435 := eq_true q435; have p436 : 0 ≤ (5 : Int) := (by omega); have q436 : 5 < (l1.length : Int) := dT; obtain ⟨ad436, e436, hx436_0⟩ := Kd.at_int HR1.out 5 p436 q436; obtain rfl : ad430 = ad436 := (by injection e436); (try simp only [show (5 : Int).toNat = 5 from rfl, Nat.reduceMul, Nat.reduceEqDiff, Go.Addr.add, ↓reduceIte] at hx436_0); have qi436 : (5 < l1.length) = True := eq_true (by omega); (try rw [show ((5 : Int)).toNat = 5 from rfl] at hx436_0); replace hx436_0 := zH HB.out hx436_0; replace p436 := eq_true p436; replace q436 := eq_true q436; have p437 : 0 ≤ (6 : Int) := (by omega); have q437 : 6 < (l1.length : Int) := dT; obtain ⟨ad437, e437, hx437_0⟩ := Kd.at_int HR1.out 6 p437 q437; obtain rfl : ad430 = ad437 := (by injection e437); (try simp only [show (6 : Int).toNat = 6 from rfl, Nat.reduceMul, Nat.reduceEqDiff, Go.Addr.add, ↓reduceIte] at hx437_0); have qi437 : (6 < l1.length) = True := eq_true (by omega); (try rw [show ((6 : Int)).toNat = 6 from rfl] at hx437_0); replace hx437_0 := zH HB.out hx437_0; replace p437 := eq_true p437; replace q437 := eq_true q437; have p438 : 0 ≤ (7 : Int) := (by omega); have q438 : 7 < (l1.length : Int) := dT; obtain ⟨ad438, e438, hx438_0⟩ := Kd.at_int HR1.out 7 p438 q438; obtain rfl : ad430 = ad438 := (by injection e438); (try simp only [show (7 : Int).toNat = 7 from rfl, Nat.reduceMul, Nat.reduceEqDiff, Go.Addr.add, ↓reduceIte] at hx438_0); have qi438 : (7 < l1.length) = True := eq_true (by omega); (try rw [show ((7 : Int)).toNat = 7 from rfl] at hx438_0); replace hx438_0 := zH HB.out hx438_0; replace p438 := eq_true p438; replace q438 := eq_true q438)); try go_quiet (first | ((with_reducible refine gate_dst (N := 2) rfl ?_); refine zbo (N := 2) (cs := #[]) (t := 115) ?_; intro gb429 hg w11 hbox hb; have BK429 := Aside0.mk (hbox); have GW429 := zgw hg HB; have GE429 := zgw hg HB; replace HB := zbs HB hb; clear hb hbox hg; have p430 : 0 ≤ (7 : Int) := (by omega); have q430 : 7 < (l1.length : Int) := dT; obtain ⟨ad430, e430, hx430_0⟩ := Kd.at_int HR1.out 7 p430 q430; cases e430; (try simp only [show (7 : Int).toNat = 7 from rfl, Nat.reduceMul, Nat.reduceEqDiff, Go.Addr.add, ↓reduceIte] at hx430_0); have qi430 : (7 < l1.length) = True := eq_true (by omega); (try rw [show ((7 : Int)).toNat = 7 from rfl] at hx430_0); replace hx430_0 := zH HB.out hx430_0; replace p430 := eq_true p430; replace q430 := eq_true q430; have p431 : 0 ≤ (0 : Int) := (by omega); have q431 : 0 < (l1.length : Int) := dT; obtain ⟨ad431, e431, hx431_0⟩ := Kd.at_int HR1.out 0 p431 q431; obtain rfl : ad430 = ad431 := (by injection e431); have qi431 : (0 < l1.length) = True := eq_true (by omega); (try rw [show ((0 : Int)).toNat = 0 from rfl] at hx431_0); (try rw [Addr.add_zero'] at hx431_0); replace hx431_0 := zH HB.out hx431_0; replace p431 := eq_true p431; replace q431 := eq_true q431; have p432 : 0 ≤ (1 : Int) := (by omega); have q432 : 1 < (l1.length : Int) := dT; obtain ⟨ad432, e432, hx432_0⟩ := Kd.at_int HR1.out 1 p432 q432; obtain rfl : ad430 = ad432 := (by injection e432); (try simp only [show (1 : Int).toNat = 1 from rfl, Nat.reduceMul, Nat.reduceEqDiff, Go.Addr.add, ↓reduceIte] at hx432_0); have qi432 : (1 < l1.length) = True := eq_true (by omega); (try rw [show ((1 : Int)).toNat = 1 from rfl] at hx432_0); replace hx432_0 := zH HB.out hx432_0; replace p432 := eq_true p432; replace q432 := eq_true q432; have p433 : 0 ≤ (2 : Int) := (by omega); have q433 : 2 < (l1.length : Int) := dT; obtain ⟨ad433, e433, hx433_0⟩ := Kd.at_int HR1.out 2 p433 q433; obtain rfl : ad430 = ad433 := (by injection e433); (try simp only [show (2 : Int).toNat = 2 from rfl, Nat.reduceMul, Nat.reduceEqDiff, Go.Addr.add, ↓reduceIte] at hx433_0); have qi433 : (2 < l1.length) = True := eq_true (by omega); (try rw [show ((2 : Int)).toNat = 2 from rfl] at hx433_0); replace hx433_0 := zH HB.out hx433_0; replace p433 := eq_true p433; replace q433 := eq_true q433; have p434 : 0 ≤ (3 : Int) := (by omega); have q434 : 3 < (l1.length : Int) := dT; obtain ⟨ad434, e434, hx434_0⟩ := Kd.at_int HR1.out 3 p434 q434; obtain rfl : ad430 = ad434 := (by injection e434); (try simp only [show (3 : Int).toNat = 3 from rfl, Nat.reduceMul, Nat.reduceEqDiff, Go.Addr.add, ↓reduceIte] at hx434_0); have qi434 : (3 < l1.length) = True := eq_true (by omega); (try rw [show ((3 : Int)).toNat = 3 from rfl] at hx434_0); replace hx434_0 := zH HB.out hx434_0; replace p434 := eq_true p434; replace q434 := eq_true q434; have p435 : 0 ≤ (4 : Int) := (by omega); have q435 : 4 < (l1.length : Int) := dT; obtain ⟨ad435, e435, hx435_0⟩ := Kd.at_int HR1.out 4 p435 q435; obtain rfl : ad430 = ad435 := (by injection e435); (try simp only [show (4 : Int).toNat = 4 from rfl, Nat.reduceMul, Nat.reduceEqDiff, Go.Addr.add, ↓reduceIte] at hx435_0); have qi435 : (4 < l1.length) = True := eq_true (by omega); (try rw [show ((4 : Int)).toNat = 4 from rfl] at hx435_0); replace hx435_0 := zH HB.out hx435_0; replace p435 := eq_true p435; replace q435 := eq_true q435; have p436 : 0 ≤ (5 : Int) := (by omega); have q436 : 5 < (l1.length : Int) := dT; obtain ⟨ad436, e436, hx436_0⟩ := Kd.at_int HR1.out 5 p436 q436; obtain rfl : ad430 = ad436 := (by injection e436); (try simp only [show (5 : Int).toNat = 5 from rfl, Nat.reduceMul, Nat.reduceEqDiff, Go.Addr.add, ↓reduceIte] at hx436_0); have qi436 : (5 < l1.length) = True := eq_true (by omega); (try rw [show ((5 : Int)).toNat = 5 from rfl] at hx436_0); replace hx436_0 := zH HB.out hx436_0; replace p436 := eq_true p436; replace q436 := eq_true q436; have p437 : 0 ≤ (6 : Int) := (by omega); have q437 : 6 < (l1.length : Int) := dT; obtain ⟨ad437, e437, hx437_0⟩ := Kd.at_int HR1.out 6 p437 q437; obtain rfl : ad430 = ad437 := (by injection e437); (try simp only [show (6 : Int).toNat = 6 from rfl, Nat.reduceMul, Nat.reduceEqDiff, Go.Addr.add, ↓reduceIte] at hx437_0); have qi437 : (6 < l1.length) = True := eq_true (by omega); (try rw [show ((6 : Int)).toNat = 6 from rfl] at hx437_0); replace hx437_0 := zH HB.out hx437_0; replace p437 := eq_true p437; replace q437 := eq_true q437; have p438 : 0 ≤ (7 : Int) := (by omega); have q438 : 7 < (l1.length : Int) := dT; obtain ⟨ad438, e438, hx438_0⟩ := Kd.at_int HR1.out 7 p438 q438; obtain rfl : ad430 = ad438 := (by injection e438); (try simp only [show (7 : Int).toNat = 7 from rfl, Nat.reduceMul, Nat.reduceEqDiff, Go.Addr.add, ↓reduceIte] at hx438_0); have qi438 : (7 < l1.length) = True := eq_true (by omega); (try rw [show ((7 : Int)).toNat = 7 from rfl] at hx438_0); replace hx438_0 := zH HB.out hx438_0; replace p438 := eq_true p438; replace q438 := eq_true q438)))
         go_ret
         exact ⟨zX, zB HB.out⟩
        rw [if_neg c10] at H
        exact absurd H (by simp)
       rw [if_neg c9] at H
       exact absurd H (by simp)
      rw [if_neg c8] at H
      exact absurd H (by simp)
     rw [if_neg c7] at H
     exact absurd H (by simp)
    rw [if_neg c6] at H
    exact absurd H (by simp)
   rw [if_neg c5] at H
   exact absurd H (by simp)
  rw [if_neg c4] at H
  exact absurd H (by simp)
 rw [if_neg c3] at H
 exact absurd H (by simp)
end Go.Proofs.YtpdohioobbfncaaGreatDoor.PFnJpWildStop