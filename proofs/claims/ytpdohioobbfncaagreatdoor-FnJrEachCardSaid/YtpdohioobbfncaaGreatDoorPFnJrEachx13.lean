/- what the Go functions that the law FnJrEach reaches compute, each as a plain function, with the proof that the Go code computes just that; no condition beside those that each theorem states. -/
import Derived.Test.YtpdohioobbfncaaGreatDoorPFnJrEachx0
namespace Go.Proofs.YtpdohioobbfncaaGreatDoor.PFnJrEach
open Go.RowKit Go.Proofs.YtpdohioobbfncaaGreatDoorW.PrintWords Go.Proofs.YtpdohioobbfncaaGreatDoorW.PrintLast Go.Proofs.YtpdohioobbfncaaGreatDoorW.PrintMore
set_option linter.unusedVariables false
set_option linter.unusedSimpArgs false
def UU_.f (a0 : Unit) (l1 : List Int) : Option (Int) := if 7 < (l1.length : Int) then (if 0 < (l1.length : Int) then (if 1 < (l1.length : Int) then (if 2 < (l1.length : Int) then (if 3 < (l1.length : Int) then (if 4 < (l1.length : Int) then (if 5 < (l1.length : Int) then (if 6 < (l1.length : Int) then (some (Go.bits .or .u64 (Go.bits .or .u64 (Go.bits .or .u64 (Go.bits .or .u64 (Go.bits .or .u64 (Go.bits .or .u64 (Go.bits .or .u64 (IntKind.u64.wrap (rd l1 0)) (IntKind.u64.wrap ((IntKind.u64.wrap (rd l1 1)) * 256))) (IntKind.u64.wrap ((IntKind.u64.wrap (rd l1 2)) * 65536))) (IntKind.u64.wrap ((IntKind.u64.wrap (rd l1 3)) * 16777216))) (IntKind.u64.wrap ((IntKind.u64.wrap (rd l1 4)) * 4294967296))) (IntKind.u64.wrap ((IntKind.u64.wrap (rd l1 5)) * 1099511627776))) (IntKind.u64.wrap ((IntKind.u64.wrap (rd l1 6)) * 281474976710656))) (IntKind.u64.wrap ((IntKind.u64.wrap (rd l1 7)) * 72057594037927936)))) else (none)) else (none)) else (none)) else (none)) else (none)) else (none)) else (none)) else (none)
set_option maxHeartbeats 8000000 in
set_option maxRecDepth 100000 in
theorem UU_.calls (a0 : Unit) (A1 : Option Addr) (c1 : Nat) (l1 : List Int) (r : Int) (w : World) (hr1 : Kd.C (Kd.int .u8) w A1 l1.length l1) (hc1 : l1.length ≤ c1) (h : UU_.f a0 l1 = some r) :
    Calls Tryz.prog 73 #[.agg #[], .slice A1 l1.length c1] w fun e w' => e = .returned (.int .u64 r) ∧ Below w.heap.size w w' := by
 have HR1 := Aside0.mk hr1
 have HC1 := Aside0.mk hc1
 clear hr1 hc1
 have HB := Aside0.mk (Below.refl w.heap.size w)
 have H : (if 7 < (l1.length : Int) then (if 0 < (l1.length : Int) then (if 1 < (l1.length : Int) then (if 2 < (l1.length : Int) then (if 3 < (l1.length : Int) then (if 4 < (l1.length : Int) then (if 5 < (l1.length : Int) then (if 6 < (l1.length : Int) then (some (Go.bits .or .u64 (Go.bits .or .u64 (Go.bits .or .u64 (Go.bits .or .u64 (Go.bits .or .u64 (Go.bits .or .u64 (Go.bits .or .u64 (IntKind.u64.wrap (rd l1 0)) (IntKind.u64.wrap ((IntKind.u64.wrap (rd l1 1)) * 256))) (IntKind.u64.wrap ((IntKind.u64.wrap (rd l1 2)) * 65536))) (IntKind.u64.wrap ((IntKind.u64.wrap (rd l1 3)) * 16777216))) (IntKind.u64.wrap ((IntKind.u64.wrap (rd l1 4)) * 4294967296))) (IntKind.u64.wrap ((IntKind.u64.wrap (rd l1 5)) * 1099511627776))) (IntKind.u64.wrap ((IntKind.u64.wrap (rd l1 6)) * 281474976710656))) (IntKind.u64.wrap ((IntKind.u64.wrap (rd l1 7)) * 72057594037927936)))) else (none)) else (none)) else (none)) else (none)) else (none)) else (none)) else (none)) else (none)) = some r := h
 clear h
 by_cases c3 : 7 < (l1.length : Int)
 ·
  rw [if_pos c3] at H
  have c3b0 := decide_eq_true c3
  have c3b1 : decide (7 < l1.length) = true := decide_eq_true (by omega)
  clear c3
  by_cases c4 : 0 < (l1.length : Int)
  ·
   rw [if_pos c4] at H
   have c4b0 := decide_eq_true c4
   have c4b1 : decide (0 < l1.length) = true := decide_eq_true (by omega)
   clear c4
   by_cases c5 : 1 < (l1.length : Int)
   ·
    rw [if_pos c5] at H
    have c5b0 := decide_eq_true c5
    have c5b1 : decide (1 < l1.length) = true := decide_eq_true (by omega)
    clear c5
    by_cases c6 : 2 < (l1.length : Int)
    ·
     rw [if_pos c6] at H
     have c6b0 := decide_eq_true c6
     have c6b1 : decide (2 < l1.length) = true := decide_eq_true (by omega)
     clear c6
     by_cases c7 : 3 < (l1.length : Int)
     ·
      rw [if_pos c7] at H
      have c7b0 := decide_eq_true c7
      have c7b1 : decide (3 < l1.length) = true := decide_eq_true (by omega)
      clear c7
      by_cases c8 : 4 < (l1.length : Int)
      ·
       rw [if_pos c8] at H
       have c8b0 := decide_eq_true c8
       have c8b1 : decide (4 < l1.length) = true := decide_eq_true (by omega)
       clear c8
       by_cases c9 : 5 < (l1.length : Int)
       ·
        rw [if_pos c9] at H
        have c9b0 := decide_eq_true c9
        have c9b1 : decide (5 < l1.length) = true := decide_eq_true (by omega)
        clear c9
        by_cases c10 : 6 < (l1.length : Int)
        ·
         rw [if_pos c10] at H
         have c10b0 := decide_eq_true c10
         have c10b1 : decide (6 < l1.length) = true := decide_eq_true (by omega)
         clear c10
         obtain rfl := Option.some.inj H
         go_enter Tryz.func73, Tryz.ntmps73
         iterate 3 (try go_wp2_with (first | ((with_reducible refine gate_dst (N := 2) rfl ?_); refine zbo (N := 2) (cs := #[]) (t := 115) ?_; intro gb420 hg w11 hbox hb; have BK420 := Aside0.mk (hbox); have GW420 := zgw hg HB; have GE420 := zgw hg HB; replace HB := zbs HB hb; clear hb hbox hg; have p421 : 0 ≤ (7 : Int) := (by omega); have q421 : 7 < (l1.length : Int) := dT; obtain ⟨ad421, e421, hx421_0⟩ := Kd.at_int HR1.out 7 p421 q421; cases e421; (try simp only [show (7 : Int).toNat = 7 from rfl, Nat.reduceMul, Nat.reduceEqDiff, Go.Addr.add, ↓reduceIte] at hx421_0); have qi421 : (7 < l1.length) = True := eq_true (by omega); (try rw [show ((7 : Int)).toNat = 7 from rfl] at hx421_0); replace hx421_0 := zH HB.out hx421_0; replace p421 := eq_true p421; replace q421 := eq_true q421; have p422 : 0 ≤ (0 : Int) := (by omega); have q422 : 0 < (l1.length : Int) := dT; obtain ⟨ad422, e422, hx422_0⟩ := Kd.at_int HR1.out 0 p422 q422; obtain rfl : ad421 = ad422 := (by injection e422); have qi422 : (0 < l1.length) = True := eq_true (by omega); (try rw [show ((0 : Int)).toNat = 0 from rfl] at hx422_0); (try rw [Addr.add_zero'] at hx422_0); replace hx422_0 := zH HB.out hx422_0; replace p422 := eq_true p422; replace q422 := eq_true q422; have p423 : 0 ≤ (1 : Int) := (by omega); have q423 : 1 < (l1.length : Int) := dT; obtain ⟨ad423, e423, hx423_0⟩ := Kd.at_int HR1.out 1 p423 q423; obtain rfl : ad421 = ad423 := (by injection e423); (try simp only [show (1 : Int).toNat = 1 from rfl, Nat.reduceMul, Nat.reduceEqDiff, Go.Addr.add, ↓reduceIte] at hx423_0); have qi423 : (1 < l1.length) = True := eq_true (by omega); (try rw [show ((1 : Int)).toNat = 1 from rfl] at hx423_0); replace hx423_0 := zH HB.out hx423_0; replace p423 := eq_true p423; replace q423 := eq_true q423; have p424 : 0 ≤ (2 : Int) := (by omega); have q424 : 2 < (l1.length : Int) := dT; obtain ⟨ad424, e424, hx424_0⟩ := Kd.at_int HR1.out 2 p424 q424; obtain rfl : ad421 = ad424 := (by injection e424); (try simp only [show (2 : Int).toNat = 2 from rfl, Nat.reduceMul, Nat.reduceEqDiff, Go.Addr.add, ↓reduceIte] at hx424_0); have qi424 : (2 < l1.length) = True := eq_true (by omega); (try rw [show ((2 : Int)).toNat = 2 from rfl] at hx424_0); replace hx424_0 := zH HB.out hx424_0; replace p424 := eq_true p424; replace q424 := eq_true q424; have p425 : 0 ≤ (3 : Int) := (by omega); have q425 : 3 < (l1.length : Int) := dT; obtain ⟨ad425, e425, hx425_0⟩ := Kd.at_int HR1.out 3 p425 q425; obtain rfl : ad421 = ad425 := (by injection e425); (try simp only [show (3 : Int).toNat = 3 from rfl, Nat.reduceMul, Nat.reduceEqDiff, Go.Addr.add, ↓reduceIte] at hx425_0); have qi425 : (3 < l1.length) = True := eq_true (by omega); (try rw [show ((3 : Int)).toNat = 3 from rfl] at hx425_0); replace hx425_0 := zH HB.out hx425_0; replace p425 := eq_true p425; replace q425 := eq_true q425; have p426 : 0 ≤ (4 : Int) := (by omega); have q426 : 4 < (l1.length : Int) := dT; obtain ⟨ad426, e426, hx426_0⟩ := Kd.at_int HR1.out 4 p426 q426; obtain rfl : ad421 = ad426 := (by injection e426); (try simp only [show (4 : Int).toNat = 4 from rfl, Nat.reduceMul, Nat.reduceEqDiff, Go.Addr.add, ↓reduceIte] at hx426_0); have qi426 : (4 < l1.length) = True := eq_true (by omega); (try rw [show ((4 : Int)).toNat = 4 from rfl] at hx426_0); replace hx426_0 := zH HB.out hx426_0; replace p426 := eq_true p426; replace q426 := eq_true q426; have p427 : 0 ≤ (5 : Int) := (by omega); have q427 : 5 < (l1.length : Int) := dT; obtain ⟨ad427, e427, hx427_0⟩ := Kd.at_int HR1.out 5 p427 q427; obtain rfl : ad421 = ad427 := (by injection e427); (try simp only [show (5 : Int).toNat = 5 from rfl, Nat.reduceMul, Nat.reduceEqDiff, Go.Addr.add, ↓reduceIte] at hx427_0); have qi427 : (5 < l1.length) = True := eq_true (by omega); (try rw [show ((5 : Int)).toNat = 5 from rfl] at hx427_0); replace hx427_0 := zH HB.out hx427_0; replace p427 := eq_true p427; replace q427 := eq_true q427; have p428 : 0 ≤ (6 : Int) := (by omega); have q428 : 6 < (l1.length : Int) := dT; obtain ⟨ad428, e428, hx428_0⟩ := Kd.at_int HR1.out 6 p428 q428; obtain rfl : ad421 = ad428 := (by injection e428); (try simp only [show (6 : Int).toNat = 6 from rfl, Nat.reduceMul, Nat.reduceEqDiff, Go.Addr.add, ↓reduceIte] at hx428_0); have qi428 : (6 < l1.length) = True := eq_true (by omega); (try rw [show ((6 : Int)).toNat = 6 from rfl] at hx428_0); replace hx428_0 := zH HB.out hx428_0; replace p428 := eq_true p428; replace q428 := eq_true q428; have p429 : 0 ≤ (7 : Int) := (by omega); have q429 : 7 < (l1.length : Int) := dT; obtain ⟨ad429, e429, hx429_0⟩ := Kd.at_int HR1.out 7 p429 q429; obtain rfl : ad421 = ad429 := (by injection e429); (try simp only [show (7 : Int).toNat = 7 from rfl, Nat.reduceMul, Nat.reduceEqDiff, Go.Addr.add, ↓reduceIte] at hx429_0); have qi429 : (7 < l1.length) = True := eq_true (by omega); (try rw [show ((7 : Int)).toNat = 7 from rfl] at hx429_0); replace hx429_0 := zH HB.out hx429_0; replace p429 := eq_true p429; replace q429 := eq_true q429)); try go_quiet (first | ((with_reducible refine gate_dst (N := 2) rfl ?_); refine zbo (N := 2) (cs := #[]) (t := 115) ?_; intro gb420 hg w11 hbox hb; have BK420 := Aside0.mk (hbox); have GW420 := zgw hg HB; have GE420 := zgw hg HB; replace HB := zbs HB hb; clear hb hbox hg; have p421 : 0 ≤ (7 : Int) := (by omega); have q421 : 7 < (l1.length : Int) := dT; obtain ⟨ad421, e421, hx421_0⟩ := Kd.at_int HR1.out 7 p421 q421; cases e421; (try simp only [show (7 : Int).toNat = 7 from rfl, Nat.reduceMul, Nat.reduceEqDiff, Go.Addr.add, ↓reduceIte] at hx421_0); have qi421 : (7 < l1.length) = True := eq_true (by omega); (try rw [show ((7 : Int)).toNat = 7 from rfl] at hx421_0); replace hx421_0 := zH HB.out hx421_0; replace p421 := eq_true p421; replace q421 := eq_true q421; have p422 : 0 ≤ (0 : Int) := (by omega); have q422 : 0 < (l1.length : Int) := dT; obtain ⟨ad422, e422, hx422_0⟩ := Kd.at_int HR1.out 0 p422 q422; obtain rfl : ad421 = ad422 := (by injection e422); have qi422 : (0 < l1.length) = True := eq_true (by omega); (try rw [show ((0 : Int)).toNat = 0 from rfl] at hx422_0); (try rw [Addr.add_zero'] at hx422_0); replace hx422_0 := zH HB.out hx422_0; replace p422 := eq_true p422; replace q422 := eq_true q422; have p423 : 0 ≤ (1 : Int) := (by omega); have q423 : 1 < (l1.length : Int) := dT; obtain ⟨ad423, e423, hx423_0⟩ := Kd.at_int HR1.out 1 p423 q423; obtain rfl : ad421 = ad423 := (by injection e423); (try simp only [show (1 : Int).toNat = 1 from rfl, Nat.reduceMul, Nat.reduceEqDiff, Go.Addr.add, ↓reduceIte] at hx423_0); have qi423 : (1 < l1.length) = True := eq_true (by omega); (try rw [show ((1 : Int)).toNat = 1 from rfl] at hx423_0); replace hx423_0 := zH HB.out hx423_0; replace p423 := eq_true p423; replace q423 := eq_true q423; have p424 : 0 ≤ (2 : Int) := (by omega); have q424 : 2 < (l1.length : Int) := dT; obtain ⟨ad424, e424, hx424_0⟩ := Kd.at_int HR1.out 2 p424 q424; obtain rfl : ad421 = ad424 := (by injection e424); (try simp only [show (2 : Int).toNat = 2 from rfl, Nat.reduceMul, Nat.reduceEqDiff, Go.Addr.add, ↓reduceIte] at hx424_0); have qi424 : (2 < l1.length) = True := eq_true (by omega); (try rw [show ((2 : Int)).toNat = 2 from rfl] at hx424_0); replace hx424_0 := zH HB.out hx424_0; replace p424 := eq_true p424; replace q424 := eq_true q424; have p425 : 0 ≤ (3 : Int) := (by omega); have q425 : 3 < (l1.length : Int) := dT; obtain ⟨ad425, e425, hx425_0⟩ := Kd.at_int HR1.out 3 p425 q425; obtain rfl : ad421 = ad425 := (by injection e425); (try simp only [show (3 : Int).toNat = 3 from rfl, Nat.reduceMul, Nat.reduceEqDiff, Go.Addr.add, ↓reduceIte] at hx425_0); have qi425 : (3 < l1.length) = True := eq_true (by omega); (try rw [show ((3 : Int)).toNat = 3 from rfl] at hx425_0); replace hx425_0 := zH HB.out hx425_0; replace p425 := eq_true p425; replace q425 := eq_true q425; have p426 : 0 ≤ (4 : Int) := (by omega); have q426 : 4 < (l1.length : Int) := dT; obtain ⟨ad426, e426, hx426_0⟩ := Kd.at_int HR1.out 4 p426 q426; obtain rfl : ad421 = ad426 := (by injection e426); (try simp only [show (4 : Int).toNat = 4 from rfl, Nat.reduceMul, Nat.reduceEqDiff, Go.Addr.add, ↓reduceIte] at hx426_0); have qi426 : (4 < l1.length) = True := eq_true (by omega); (try rw [show ((4 : Int)).toNat = 4 from rfl] at hx426_0); replace hx426_0 := zH HB.out hx426_0; replace p426 := eq_true p426; replace q426 := eq_true q426; have p427 : 0 ≤ (5 : Int) := (by omega); have q427 : 5 < (l1.length : Int) := dT; obtain ⟨ad427, e427, hx427_0⟩ := Kd.at_int HR1.out 5 p427 q427; obtain rfl : ad421 = ad427 := (by injection e427); (try simp only [show (5 : Int).toNat = 5 from rfl, Nat.reduceMul, Nat.reduceEqDiff, Go.Addr.add, ↓reduceIte] at hx427_0); have qi427 : (5 < l1.length) = True := eq_true (by omega); (try rw [show ((5 : Int)).toNat = 5 from rfl] at hx427_0); replace hx427_0 := zH HB.out hx427_0; replace p427 := eq_true p427; replace q427 := eq_true q427; have p428 : 0 ≤ (6 : Int) := (by omega); have q428 : 6 < (l1.length : Int) := dT; obtain ⟨ad428, e428, hx428_0⟩ := Kd.at_int HR1.out 6 p428 q428; obtain rfl : ad421 = ad428 := (by injection e428); (try simp only [show (6 : Int).toNat = 6 from rfl, Nat.reduceMul, Nat.reduceEqDiff, Go.Addr.add, ↓reduceIte] at hx428_0); have qi428 : (6 < l1.length) = True := eq_true (by omega); (try rw [show ((6 : Int)).toNat = 6 from rfl] at hx428_0); replace hx428_0 := zH HB.out hx428_0; replace p428 := eq_true p428; replace q428 := eq_true q428; have p429 : 0 ≤ (7 : Int) := (by omega); have q429 : 7 < (l1.length : Int) := dT; obtain ⟨ad429, e429, hx429_0⟩ := Kd.at_int HR1.out 7 p429 q429; obtain rfl : ad421 = ad429 := (by injection e429); (try simp only [show (7 : Int).toNat = 7 from rfl, Nat.reduceMul, Nat.reduceEqDiff, Go.Addr.add, ↓reduceIte] at hx429_0); have qi429 : (7 < l1.length) = True := eq_true (by omega); (try rw [show ((7 : Int)).toNat = 7 from rfl] at hx429_0); replace hx429_0 := zH HB.out hx429_0; replace p429 := eq_true p429; replace q429 := eq_true q429)))
         go_ret
         exact ⟨zX, zB HB.out⟩
        rw [if_neg c10] at H
        exact absurd H (by simp)
       rw [if_neg c9] at H
       exact absurd H (by simp)
      rw [if_neg c8] at H
      exact absurd H (by simp)
     rw [if_neg c7] at H
     exact absurd H (by simp)
    rw [if_neg c6] at H
    exact absurd H (by simp)
   rw [if_neg c5] at H
   exact absurd H (by simp)
  rw [if_neg c4] at H
  exact absurd H (by simp)
 rw [if_neg c3] at H
 exact absurd H (by simp)
end Go.Proofs.YtpdohioobbfncaaGreatDoor.PFnJrEach