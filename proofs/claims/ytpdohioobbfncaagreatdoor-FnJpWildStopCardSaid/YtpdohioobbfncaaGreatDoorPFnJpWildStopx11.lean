/- what the Go functions that the law FnJpWildStop reaches compute, each as a plain function, with the proof that the Go code computes just that; no condition beside those that each theorem states. -/
import Derived.Test.YtpdohioobbfncaaGreatDoorPFnJpWildStopx0
import Derived.Test.YtpdohioobbfncaaGreatDoorPFnJpWildStopx7
import Derived.Test.YtpdohioobbfncaaGreatDoorPFnJpWildStopx10
namespace Go.Proofs.YtpdohioobbfncaaGreatDoor.PFnJpWildStop
open Go.RowKit Go.Proofs.YtpdohioobbfncaaGreatDoorW.PrintWords Go.Proofs.YtpdohioobbfncaaGreatDoorW.PrintLast Go.Proofs.YtpdohioobbfncaaGreatDoorW.PrintMore
set_option linter.unusedVariables false
set_option linter.unusedSimpArgs false
mutual
def OO_.l0 : Nat → ByteArray → List ByteArray → Int → Int → Int → Int → Int → List (S64) → List (S27) → Option (Bool)
  | 0, _, _, _, _, _, _, _, _, _ => none
  | k + 1, x0, x13, x14, x15, x367000, x367001, x367002, x367003, x367004 => if x15 < x14 then (if 0 ≤ x15 then (if x15 < (x13.length : Int) then (if x367000 = 6 then (OO_.l1 k x0 (rdOf ByteArray.empty x13 x15) 0 0 x13 x14 x15 x367000 x367001 x367002 x367003 x367004) else ((SS_.f k x0 x367000 x367001 x367002 x367003 x367004 (rdOf ByteArray.empty x13 x15)).bind fun bt382 => (if bt382.2.2.2.2.2 = true then (OO_.l0 k x0 x13 x14 (wrap64 (x15 + 1)) bt382.1 bt382.2.1 bt382.2.2.1 bt382.2.2.2.1 bt382.2.2.2.2.1) else (some true)))) else (none)) else (none)) else (some true)
def OO_.l1 : Nat → ByteArray → ByteArray → Int → Int → List ByteArray → Int → Int → Int → Int → Int → List (S64) → List (S27) → Option (Bool)
  | 0, _, _, _, _, _, _, _, _, _, _, _, _ => none
  | k + 1, x0, x8, x9, x10, x13, x14, x15, x367000, x367001, x367002, x367003, x367004 => if x10 < (x367003.length : Int) then (if 0 ≤ x10 then (if 0 ≤ ((rd_T64 x367003 x10).f0) then (if ((rd_T64 x367003 x10).f0) ≤ ((rd_T64 x367003 x10).f1) then (if ((rd_T64 x367003 x10).f1) ≤ (x0.size : Int) then ((Unq_.f k (x0.extract (((rd_T64 x367003 x10).f0) : Int).toNat (((rd_T64 x367003 x10).f1) : Int).toNat)).bind fun t370 => (if t370.toList = x8.toList then (OO_.l1 k x0 x8 (wrap64 (x9 + 1)) (wrap64 (x10 + 1)) x13 x14 x15 x367000 x367001 x367002 x367003 x367004) else (OO_.l1 k x0 x8 x9 (wrap64 (x10 + 1)) x13 x14 x15 x367000 x367001 x367002 x367003 x367004))) else (none)) else (none)) else (none)) else (none)) else (if x9 > 1 then (some false) else ((SS_.f k x0 x367000 x367001 x367002 x367003 x367004 x8).bind fun bt371 => (if bt371.2.2.2.2.2 = true then (OO_.l0 k x0 x13 x14 (wrap64 (x15 + 1)) bt371.1 bt371.2.1 bt371.2.2.1 bt371.2.2.2.1 bt371.2.2.2.2.1) else (some true))))
end
def OO_.f (k : Nat) (a0 : ByteArray) (a1_0 : Int) (a1_1 : Int) (a1_2 : Int) (l1_3 : List (S64)) (l1_4 : List (S27)) (l2 : List ByteArray) : Option (Bool) := OO_.l0 k a0 l2 (l2.length : Int) 0 a1_0 a1_1 a1_2 l1_3 l1_4
def OO_.T9 : Bool × List (List Nat × List Nat) := (true, [([], []), ([], []), ([1], [1]), ([], []), ([2, 3], [2, 3]), ([4], [4]), ([5], [5]), ([], []), ([7], [7]), ([], []), ([8, 9], [8, 9]), ([10], [10]), ([11], [11]), ([0, 6, 12], [0, 6, 12]), ([13], [13]), ([], []), ([14, 15], [14, 15])])
def OO_.B9 : List Nat := [0, 0, 2, 0, 14, 30, 62, 0, 128, 0, 896, 1920, 3968, 8191, 16383, 0, 65535]
theorem OO_.tab9 : rtab .any (opsOf Tryz.f15 9) = OO_.T9 := by kernel_rfl
theorem OO_.bits9 : waitsOk OO_.T9.2 OO_.B9 = true := by kernel_rfl
set_option maxHeartbeats 8000000 in
set_option maxRecDepth 100000 in
theorem OO_.calls (k : Nat) (a0 : ByteArray) (a1_0 : Int) (a1_1 : Int) (a1_2 : Int) (P1_3_ : Nat → Prop) (A1_3 : Option Addr) (c1_3 : Nat) (l1_3 : List (S64)) (P1_4_ : Nat → Prop) (A1_4 : Option Addr) (c1_4 : Nat) (l1_4 : List (S27)) (A2 : Option Addr) (c2 : Nat) (l2 : List ByteArray) (r : Bool) (w : World) (hs1_3 : Kd.V k64 64 w w.heap.size (fun k_ => P1_3_ k_) (.slice A1_3 l1_3.length c1_3) l1_3) (hs1_4 : Kd.V k27 27 w w.heap.size (fun k_ => P1_4_ k_) (.slice A1_4 l1_4.length c1_4) l1_4) (hr2 : Kd.C Kd.string w A2 l2.length l2) (hc2 : l2.length ≤ c2) (h : OO_.f k a0 a1_0 a1_1 a1_2 l1_3 l1_4 l2 = some r) :
    Calls Tryz.prog 15 #[.string a0, .agg #[.int .i64 a1_0, .int .i64 a1_1, .int .i64 a1_2, .slice A1_3 l1_3.length c1_3, .slice A1_4 l1_4.length c1_4], .slice A2 l2.length c2] w fun e w' => e = .returned (.bool r) ∧ Below w.heap.size w w' := by
 have hu27 := Tryz.underlying27
 have HO1_3 := Aside0.mk (show Kd.V k64 64 w w.heap.size (fun k_ => ((P1_3_ k_ ∨ P1_4_ k_) ∨ w.heap.size ≤ k_)) (.slice A1_3 l1_3.length c1_3) l1_3 from Kd.V_mono hs1_3 (fun k_ hk => .inl (.inl hk)))
 have HO1_4 := Aside0.mk (show Kd.V k27 27 w w.heap.size (fun k_ => ((P1_3_ k_ ∨ P1_4_ k_) ∨ w.heap.size ≤ k_)) (.slice A1_4 l1_4.length c1_4) l1_4 from Kd.V_mono hs1_4 (fun k_ hk => .inl (.inr hk)))
 have HR2 := Aside0.mk hr2
 have HC2 := Aside0.mk hc2
 clear hr2 hc2
 have HB := Aside0.mk (Below.refl w.heap.size w)
 have H : (OO_.l0 k a0 l2 (l2.length : Int) 0 a1_0 a1_1 a1_2 l1_3 l1_4) = some r := h
 clear h
 have H' := Aside0.mk H
 clear H
 go_enter Tryz.func15, Tryz.ntmps15
 go_wp2_with (first | ((with_reducible refine gate_dst (N := 4) rfl ?_); refine zbo (N := 4) (cs := #[.int .i64 a1_0, .int .i64 a1_1, .int .i64 a1_2, .slice A1_3 l1_3.length c1_3, .slice A1_4 l1_4.length c1_4]) (t := 27) ?_; intro gb366 hg w4 hbox hb; replace HO1_3 := zve HO1_3 hg hb; replace HO1_4 := zve HO1_4 hg hb; have BK366 := Aside0.mk (hbox); have GW366 := zgw hg HB; have GE366 := zgw hg HB; replace HB := zbs HB hb; clear hb hbox hg))
 try simp only [Act.put, List.setIfInBounds_toArray, List.set_cons_succ, List.set_cons_zero]
 go_loopg [15] k (fun kq v15 w' => ∃ (x15_1 : Int) (x367000_1 : Int) (x367001_1 : Int) (x367002_1 : Int) (x367003_1 : List (S64)) (x367004_1 : List (S27)) (u367003 : Value) (u367004 : Value), v15 = .int .i64 x15_1 ∧ Aside0 (OO_.l0 kq a0 l2 (l2.length : Int) x15_1 x367000_1 x367001_1 x367002_1 x367003_1 x367004_1 = some r) ∧ Aside0 (kq ≤ k) ∧ Aside0 (Kd.V k64 64 w' w.heap.size (fun k_ => ((P1_3_ k_ ∨ P1_4_ k_) ∨ w.heap.size ≤ k_) ∧ k_ ≠ gb366) u367003 x367003_1) ∧ Aside0 (Kd.V k27 27 w' w.heap.size (fun k_ => ((P1_3_ k_ ∨ P1_4_ k_) ∨ w.heap.size ≤ k_) ∧ k_ ≠ gb366) u367004 x367004_1) ∧ Aside0 (w'.heap[gb366]? = some (.cells #[.int .i64 x367000_1, .int .i64 x367001_1, .int .i64 x367002_1, u367003, u367004] 27 (0, 0))) ∧ Aside0 (Below w.heap.size w w'))
 case atStart => exact ⟨(0), (a1_0), (a1_1), (a1_2), (l1_3), (l1_4), (.slice A1_3 l1_3.length c1_3), (.slice A1_4 l1_4.length c1_4), zE, H', ⟨Nat.le_refl _⟩, ⟨by (with_reducible repeat (first | apply Kd.V_alloc | apply Kd.V_drewN | apply Kd.V_drew)); exact HO1_3.out⟩, ⟨by (with_reducible repeat (first | apply Kd.V_alloc | apply Kd.V_drewN | apply Kd.V_drew)); exact HO1_4.out⟩, ⟨zbx BK366⟩, ⟨zB HB.out⟩⟩
 case round =>
  clear H'
  (try clear c2)
  obtain ⟨x15_1, x367000_1, x367001_1, x367002_1, x367003_1, x367004_1, u367003, u367004, rfl, HA, HK1, HO_367003, HO_367004, BK366, HB⟩ := hrel
  rcases gk with _ | k1
  · exact absurd HA.out (by simp [OO_.l0])
  have H := HA.out
  clear HA
  simp only [OO_.l0] at H
  by_cases c5 : x15_1 < (l2.length : Int)
  ·
   rw [if_pos c5] at H
   have c5b0 := decide_eq_true c5
   clear c5
   by_cases c6 : 0 ≤ x15_1
   ·
    rw [if_pos c6] at H
    have c6b0 := decide_eq_true c6
    clear c6
    by_cases c7 : x15_1 < (l2.length : Int)
    ·
     rw [if_pos c7] at H
     have c7b0 := decide_eq_true c7
     clear c7
     by_cases c8 : x367000_1 = 6
     ·
      rw [if_pos c8] at H
      have c8b0 := beq_iff_eq.mpr c8
      have c8b1 := bne_eq_false_iff_eq.mpr c8
      clear c8
      have H' := Aside0.mk H
      clear H
      have p367 : 0 ≤ (x15_1 : Int) := dT
      have q367 : x15_1 < (l2.length : Int) := dT
      obtain ⟨ad367, e367, hx367_0⟩ := Kd.at_string HR2.out x15_1 p367 q367
      cases e367
      replace hx367_0 := zH HB.out hx367_0
      replace p367 := eq_true p367
      replace q367 := eq_true q367
      have hz9 := zc5 BK366.out
      go_wp2
      try simp only [Act.put, List.setIfInBounds_toArray, List.set_cons_succ, List.set_cons_zero]
      go_loopg [9, 10] k1 (fun kq v9 v10 w' => ∃ (x9_2 : Int) (x10_2 : Int), v9 = .int .i64 x9_2 ∧ v10 = .int .i64 x10_2 ∧ Aside0 (OO_.l1 kq a0 (rdOf ByteArray.empty l2 x15_1) x9_2 x10_2 l2 (l2.length : Int) x15_1 x367000_1 x367001_1 x367002_1 x367003_1 x367004_1 = some r) ∧ Aside0 (kq ≤ k1) ∧ Aside0 (Kd.V k64 64 w' w.heap.size (fun k_ => ((P1_3_ k_ ∨ P1_4_ k_) ∨ w.heap.size ≤ k_) ∧ k_ ≠ gb366) u367003 x367003_1) ∧ Aside0 (Kd.V k27 27 w' w.heap.size (fun k_ => ((P1_3_ k_ ∨ P1_4_ k_) ∨ w.heap.size ≤ k_) ∧ k_ ≠ gb366) u367004 x367004_1) ∧ Aside0 (w'.heap[gb366]? = some (.cells #[.int .i64 x367000_1, .int .i64 x367001_1, .int .i64 x367002_1, u367003, u367004] 27 (0, 0))) ∧ Aside0 (Below w.heap.size w w'))
      case atStart => exact ⟨(0), (0), zE, zE, H', ⟨Nat.le_refl _⟩, ⟨by (with_reducible repeat (first | apply Kd.V_alloc | apply Kd.V_drewN | apply Kd.V_drew)); exact HO_367003.out⟩, ⟨by (with_reducible repeat (first | apply Kd.V_alloc | apply Kd.V_drewN | apply Kd.V_drew)); exact HO_367004.out⟩, ⟨zbx BK366⟩, ⟨zB HB.out⟩⟩
      case round =>
       clear H'
       (try clear c2); (try clear c5b0); (try clear c6b0); (try clear c7b0); (try clear c8b0); (try clear c8b1); (try clear hz9); (try clear hx367_0); (try clear p367); (try clear q367)
       obtain ⟨x9_2, x10_2, rfl, rfl, HA, HK2, HO_367003, HO_367004, BK366, HB⟩ := hrel
       rcases gk with _ | k2
       · exact absurd HA.out (by simp [OO_.l1])
       have H := HA.out
       clear HA
       simp only [OO_.l1] at H
       by_cases c10 : x10_2 < (x367003_1.length : Int)
       ·
        rw [if_pos c10] at H
        have c10b0 := decide_eq_true c10
        clear c10
        by_cases c11 : 0 ≤ x10_2
        ·
         rw [if_pos c11] at H
         have c11b0 := decide_eq_true c11
         clear c11
         by_cases c12 : 0 ≤ ((rd_T64 x367003_1 x10_2).f0)
         ·
          rw [if_pos c12] at H
          have c12b0 := eq_true c12
          have c12b1 := decide_eq_true c12
          clear c12
          by_cases c13 : ((rd_T64 x367003_1 x10_2).f0) ≤ ((rd_T64 x367003_1 x10_2).f1)
          ·
           rw [if_pos c13] at H
           have c13b0 := eq_true c13
           have c13b1 := decide_eq_true c13
           clear c13
           by_cases c14 : ((rd_T64 x367003_1 x10_2).f1) ≤ (a0.size : Int)
           ·
            rw [if_pos c14] at H
            have c14b0 := eq_true c14
            have c14b1 := decide_eq_true c14
            clear c14
            replace H := Option.bind_eq_some_iff.mp H
            obtain ⟨t370, A150, H⟩ := H
            try dsimp only at H
            have A15 := Aside0.mk A150
            clear A150
            by_cases c16 : t370.toList = (rdOf ByteArray.empty l2 x15_1).toList
            ·
             rw [if_pos c16] at H
             have c16b0 := beq_iff_eq.mpr c16
             have c16b1 := bne_eq_false_iff_eq.mpr c16
             clear c16
             have H' := Aside0.mk H
             clear H
             have hz17 := zc5 BK366.out
             obtain ⟨Ao18, co18, eo18⟩ := Kd.V_slice HO_367003.out
             subst eo18
             try go_wp2
             have n0_ := Aside0.mk (Kd.V_drew HO_367003.out)
             have n1_ := Aside0.mk (Kd.V_drew HO_367004.out)
             have n2_ := Aside0.mk (blk_drew BK366.out)
             have n3_ := Aside0.mk (below_drew1 HB.out)
             clear HO_367003
             clear HO_367004
             clear BK366
             clear HB
             have HO_367003 := n0_
             have HO_367004 := n1_
             have BK366 := n2_
             have HB := n3_
             clear n0_ n1_ n2_ n3_
             have p368 : 0 ≤ (x10_2 : Int) := dT
             have q368 : x10_2 < (x367003_1.length : Int) := dT
             obtain ⟨ad368, e368, hx368_0, hx368_1⟩ := at_T64 (Kd.V_reads' HO_367003.out).2.2 x10_2 p368 q368
             cases e368
             replace p368 := eq_true p368
             replace q368 := eq_true q368
             have p369 : 0 ≤ (x10_2 : Int) := dT
             have q369 : x10_2 < (x367003_1.length : Int) := dT
             obtain ⟨ad369, e369, hx369_0, hx369_1⟩ := at_T64 (Kd.V_reads' HO_367003.out).2.2 x10_2 p369 q369
             obtain rfl : ad368 = ad369 := (by injection e369)
             replace p369 := eq_true p369
             replace q369 := eq_true q369
             refine start_ (n := 17) (S := fun w' => w'.cell? ⟨gb366, 0, none⟩ = some (.int .i64 x367000_1) ∧ w'.cell? ⟨gb366, 1, none⟩ = some (.int .i64 x367001_1) ∧ w'.cell? ⟨gb366, 2, none⟩ = some (.int .i64 x367002_1) ∧ w'.cell? ⟨gb366, 3, none⟩ = some (.slice (some ad368) x367003_1.length co18) ∧ w'.cell? ⟨gb366, 4, none⟩ = some (u367004) ∧ w'.cell? (ad368.add ((x10_2).toNat * 2)) = some (.int .i64 ((rd_T64 x367003_1 x10_2).f0)) ∧ w'.cell? ⟨(ad368.add ((x10_2).toNat * 2)).block, (ad368.add ((x10_2).toNat * 2)).off + 1, none⟩ = some (.int .i64 ((rd_T64 x367003_1 x10_2).f1)) ∧ w'.cell? (ad368.add ((x10_2).toNat * 2)) = some (.int .i64 ((rd_T64 x367003_1 x10_2).f0)) ∧ w'.cell? ⟨(ad368.add ((x10_2).toNat * 2)).block, (ad368.add ((x10_2).toNat * 2)).off + 1, none⟩ = some (.int .i64 ((rd_T64 x367003_1 x10_2).f1))) (ds := []) #[false, false, false, false, false, false, false, false, false, false, false, false, false, false, false, false, false] (by kernel_rfl) rfl rfl ⟨(blk_cell BK366.out 0).trans rfl, (blk_cell BK366.out 1).trans rfl, (blk_cell BK366.out 2).trans rfl, (blk_cell BK366.out 3).trans rfl, (blk_cell BK366.out 4).trans rfl, hx368_0, hx368_1, hx369_0, hx369_1⟩ (fun hHeld => ?_); refine with_tabW OO_.tab9 OO_.bits9 (fun HT_ HW_ => ?_)
             generalize wr.drew = w19 at HO_367003 HO_367004 BK366 HB hx368_0 hx368_1 hx369_0 hx369_1 hHeld ⊢
             refine pure_ (i := 0) (N := some 29) (v := ?_) (a' := ?_) #[true, false, false, false, false, false, false, false, false, false, false, false, false, false, false, false, false] rfl rfl (any_of HT_.out (by kernel_rfl)) (fun _ _ _ h => h) (Or.inl ⟨by rfl, ?_⟩) ?_ ?_
             rotate_left
             ·
              intro w'
              go_simp
              with_reducible rfl
             rotate_left
             ·
              simp only [Act.put, List.setIfInBounds_toArray, List.set_cons_zero, List.set_cons_succ, i64_w, i32_w]
              rfl
             refine pure_ (i := 1) (N := some 30) (v := ?_) (a' := ?_) #[true, true, false, false, false, false, false, false, false, false, false, false, false, false, false, false, false] rfl rfl (any_of HT_.out (by kernel_rfl)) (fun _ _ _ h => h) (Or.inl ⟨by rfl, ?_⟩) ?_ ?_
             rotate_left
             ·
              intro w'
              go_simp
              with_reducible rfl
             rotate_left
             ·
              simp only [Act.put, List.setIfInBounds_toArray, List.set_cons_zero, List.set_cons_succ, i64_w, i32_w]
              rfl
             refine pure_ (i := 3) (N := some 32) (v := ?_) (a' := ?_) #[true, true, false, true, false, false, false, false, false, false, false, false, false, false, false, false, false] rfl rfl (any_of HT_.out (by kernel_rfl)) (fun _ _ _ h => h) (Or.inl ⟨by rfl, ?_⟩) ?_ ?_
             rotate_left
             ·
              intro w'
              go_simp
              with_reducible rfl
             rotate_left
             ·
              simp only [Act.put, List.setIfInBounds_toArray, List.set_cons_zero, List.set_cons_succ, i64_w, i32_w]
              rfl
             refine pure_ (i := 7) (N := some 36) (v := ?_) (a' := ?_) #[true, true, false, true, false, false, false, true, false, false, false, false, false, false, false, false, false] rfl rfl (any_of HT_.out (by kernel_rfl)) (fun _ _ _ h => h) (Or.inl ⟨by rfl, ?_⟩) ?_ ?_
             rotate_left
             ·
              intro w'
              go_simp
              with_reducible rfl
             rotate_left
             ·
              simp only [Act.put, List.setIfInBounds_toArray, List.set_cons_zero, List.set_cons_succ, i64_w, i32_w]
              rfl
             refine pure_ (i := 9) (N := some 38) (v := ?_) (a' := ?_) #[true, true, false, true, false, false, false, true, false, true, false, false, false, false, false, false, false] rfl rfl (any_of HT_.out (by kernel_rfl)) (fun _ _ _ h => h) (Or.inl ⟨by rfl, ?_⟩) ?_ ?_
             rotate_left
             ·
              intro w'
              go_simp
              with_reducible rfl
             rotate_left
             ·
              simp only [Act.put, List.setIfInBounds_toArray, List.set_cons_zero, List.set_cons_succ, i64_w, i32_w]
              rfl
             refine pure_ (i := 15) (N := some 44) (v := ?_) (a' := ?_) #[true, true, false, true, false, false, false, true, false, true, false, false, false, false, false, true, false] rfl rfl (any_of HT_.out (by kernel_rfl)) (fun _ _ _ h => h) (Or.inl ⟨by rfl, ?_⟩) ?_ ?_
             rotate_left
             ·
              intro w'
              go_simp
              with_reducible rfl
             rotate_left
             ·
              simp only [Act.put, List.setIfInBounds_toArray, List.set_cons_zero, List.set_cons_succ, i64_w, i32_w]
              rfl
             refine take_ (i := 2) (N := some 31) (v := ?_) (a' := ?_) #[true, true, true, true, false, false, false, true, false, true, false, false, false, false, false, true, false] rfl rfl (take_ofW HT_.out HW_.out (by kernel_rfl)) (fun _ _ _ h => h) (Or.inl ⟨by rfl, ?_⟩) hHeld ?_ ?_
             rotate_left
             ·
              rintro w' ⟨s0, s1, s2, s3, s4, s5, s6, s7, s8⟩
              go_simp
              with_reducible rfl
             rotate_left
             ·
              simp only [Act.put, List.setIfInBounds_toArray, List.set_cons_zero, List.set_cons_succ, i64_w, i32_w]
              rfl
             refine pure_ (i := 4) (N := some 33) (v := ?_) (a' := ?_) #[true, true, true, true, true, false, false, true, false, true, false, false, false, false, false, true, false] rfl rfl (any_of HT_.out (by kernel_rfl)) (fun _ _ _ h => h) (Or.inl ⟨by rfl, ?_⟩) ?_ ?_
             rotate_left
             ·
              intro w'
              go_simp
              with_reducible rfl
             rotate_left
             ·
              simp only [Act.put, List.setIfInBounds_toArray, List.set_cons_zero, List.set_cons_succ, i64_w, i32_w]
              rfl
             refine pure_ (i := 5) (N := some 34) (v := ?_) (a' := ?_) #[true, true, true, true, true, true, false, true, false, true, false, false, false, false, false, true, false] rfl rfl (any_of HT_.out (by kernel_rfl)) (fun _ _ _ h => h) (Or.inl ⟨by rfl, ?_⟩) ?_ ?_
             rotate_left
             ·
              intro w'
              go_simp
              with_reducible rfl
             rotate_left
             ·
              simp only [Act.put, List.setIfInBounds_toArray, List.set_cons_zero, List.set_cons_succ, i64_w, i32_w]
              rfl
             refine take_ (i := 6) (N := some 35) (v := ?_) (a' := ?_) #[true, true, true, true, true, true, true, true, false, true, false, false, false, false, false, true, false] rfl rfl (take_ofW HT_.out HW_.out (by kernel_rfl)) (fun _ _ _ h => h) (Or.inl ⟨by rfl, ?_⟩) hHeld ?_ ?_
             rotate_left
             ·
              rintro w' ⟨s0, s1, s2, s3, s4, s5, s6, s7, s8⟩
              go_simp
              with_reducible rfl
             rotate_left
             ·
              simp only [Act.put, List.setIfInBounds_toArray, List.set_cons_zero, List.set_cons_succ, i64_w, i32_w]
              rfl
             refine take_ (i := 8) (N := some 37) (v := ?_) (a' := ?_) #[true, true, true, true, true, true, true, true, true, true, false, false, false, false, false, true, false] rfl rfl (take_ofW HT_.out HW_.out (by kernel_rfl)) (fun _ _ _ h => h) (Or.inl ⟨by rfl, ?_⟩) hHeld ?_ ?_
             rotate_left
             ·
              rintro w' ⟨s0, s1, s2, s3, s4, s5, s6, s7, s8⟩
              go_simp
              with_reducible rfl
             rotate_left
             ·
              simp only [Act.put, List.setIfInBounds_toArray, List.set_cons_zero, List.set_cons_succ, i64_w, i32_w]
              rfl
             refine pure_ (i := 10) (N := some 39) (v := ?_) (a' := ?_) #[true, true, true, true, true, true, true, true, true, true, true, false, false, false, false, true, false] rfl rfl (any_of HT_.out (by kernel_rfl)) (fun _ _ _ h => h) (Or.inl ⟨by rfl, ?_⟩) ?_ ?_
             rotate_left
             ·
              intro w'
              go_simp
              with_reducible rfl
             rotate_left
             ·
              simp only [Act.put, List.setIfInBounds_toArray, List.set_cons_zero, List.set_cons_succ, i64_w, i32_w]
              rfl
             refine pure_ (i := 11) (N := some 40) (v := ?_) (a' := ?_) #[true, true, true, true, true, true, true, true, true, true, true, true, false, false, false, true, false] rfl rfl (any_of HT_.out (by kernel_rfl)) (fun _ _ _ h => h) (Or.inl ⟨by rfl, ?_⟩) ?_ ?_
             rotate_left
             ·
              intro w'
              go_simp
              with_reducible rfl
             rotate_left
             ·
              simp only [Act.put, List.setIfInBounds_toArray, List.set_cons_zero, List.set_cons_succ, i64_w, i32_w]
              rfl
             refine take_ (i := 12) (N := some 41) (v := ?_) (a' := ?_) #[true, true, true, true, true, true, true, true, true, true, true, true, true, false, false, true, false] rfl rfl (take_ofW HT_.out HW_.out (by kernel_rfl)) (fun _ _ _ h => h) (Or.inl ⟨by rfl, ?_⟩) hHeld ?_ ?_
             rotate_left
             ·
              rintro w' ⟨s0, s1, s2, s3, s4, s5, s6, s7, s8⟩
              go_simp
              with_reducible rfl
             rotate_left
             ·
              simp only [Act.put, List.setIfInBounds_toArray, List.set_cons_zero, List.set_cons_succ, i64_w, i32_w]
              rfl
             refine pure_ (i := 13) (N := some 42) (v := ?_) (a' := ?_) #[true, true, true, true, true, true, true, true, true, true, true, true, true, true, false, true, false] rfl rfl (any_of HT_.out (by kernel_rfl)) (fun _ _ _ h => h) (Or.inl ⟨by rfl, ?_⟩) ?_ ?_
             rotate_left
             ·
              intro w'
              go_simp
              with_reducible rfl
             rotate_left
             ·
              simp only [Act.put, List.setIfInBounds_toArray, List.set_cons_zero, List.set_cons_succ, i64_w, i32_w]
              rfl
             refine one_ (i := 14) (N := some 43) #[true, true, true, true, true, true, true, true, true, true, true, true, true, true, true, true, false] rfl rfl (one_of HT_.out (by kernel_rfl)) (by decide) (fun K hK => ?_)
             refine goes_ Tryz.func28 (by kernel_rfl) rfl #[.string (a0.extract (((rd_T64 x367003_1 x10_2).f0) : Int).toNat (((rd_T64 x367003_1 x10_2).f1) : Int).toNat)] (by rfl) rfl rfl zM ?_
             with_reducible refine (Unq_.calls k2 (a0.extract (((rd_T64 x367003_1 x10_2).f0) : Int).toNat (((rd_T64 x367003_1 x10_2).f1) : Int).toNat) t370 _ A15.out).mono ?_
             rintro e w20 ⟨rfl, hb⟩
             have HS5_ := (hb.cell (World.block_lt_of_cell? _ _ (hHeld.2.2.2.2.2.1))).trans (hHeld.2.2.2.2.2.1)
             have HS6_ := (hb.cell (World.block_lt_of_cell? _ _ (hHeld.2.2.2.2.2.2.1))).trans (hHeld.2.2.2.2.2.2.1)
             have HS7_ := (hb.cell (World.block_lt_of_cell? _ _ (hHeld.2.2.2.2.2.2.2.1))).trans (hHeld.2.2.2.2.2.2.2.1)
             have HS8_ := (hb.cell (World.block_lt_of_cell? _ _ (hHeld.2.2.2.2.2.2.2.2))).trans (hHeld.2.2.2.2.2.2.2.2)
             refine ⟨_, rfl, ?_⟩
             have n0_ := zvb HO_367003 hb
             have n1_ := zvb HO_367004 hb
             have n2_ := zbb BK366 hb
             have n3_ := zbs HB hb
             clear HO_367003
             clear HO_367004
             clear BK366
             clear HB
             have HO_367003 := n0_
             have HO_367004 := n1_
             have BK366 := n2_
             have HB := n3_
             clear n0_ n1_ n2_ n3_
             (try clear hb)
             (try clear hb2)
             (try clear hk)
             (try clear hi)
             refine hK.out _ _ ⟨(blk_cell BK366.out 0).trans rfl, (blk_cell BK366.out 1).trans rfl, (blk_cell BK366.out 2).trans rfl, (blk_cell BK366.out 3).trans rfl, (blk_cell BK366.out 4).trans rfl, HS5_, HS6_, HS7_, HS8_⟩ (fun hHeld => ?_)
             clear hK K
             refine norm_ (a' := ?_) ?_ ?_
             rotate_left
             ·
              show Act.put _ (some 43) _ = _
              simp only [Act.put, List.setIfInBounds_toArray, List.set_cons_zero, List.set_cons_succ, i64_w, i32_w]
              rfl
             refine pure_ (i := 16) (N := some 45) (v := ?_) (a' := ?_) #[true, true, true, true, true, true, true, true, true, true, true, true, true, true, true, true, true] rfl rfl (any_of HT_.out (by kernel_rfl)) (fun _ _ _ h => h) (Or.inl ⟨by rfl, ?_⟩) ?_ ?_
             rotate_left
             ·
              intro w'
              go_simp
              with_reducible rfl
             rotate_left
             ·
              simp only [Act.put, List.setIfInBounds_toArray, List.set_cons_zero, List.set_cons_succ, i64_w, i32_w]
              rfl
             refine done_ (done_of HT_.out (by kernel_rfl)) ?_
             try go_wp2
             go_roundg k2
             case measure => have := HK1.out; have := HK2.out; omega
             case rel => exact ⟨(wrap64 (x9_2 + 1)), (wrap64 (x10_2 + 1)), zE, zE, H', ⟨by have := HK1.out; have := HK2.out; omega⟩, ⟨by (with_reducible repeat (first | apply Kd.V_alloc | apply Kd.V_drewN | apply Kd.V_drew)); exact HO_367003.out⟩, ⟨by (with_reducible repeat (first | apply Kd.V_alloc | apply Kd.V_drewN | apply Kd.V_drew)); exact HO_367004.out⟩, ⟨zbx BK366⟩, ⟨zB HB.out⟩⟩
            rw [if_neg c16] at H
            have c16b0 := beq_eq_false_iff_ne.mpr c16
            have c16b1 := bne_iff_ne.mpr c16
            have H' := Aside0.mk H
            clear H
            have hz21 := zc5 BK366.out
            obtain ⟨Ao22, co22, eo22⟩ := Kd.V_slice HO_367003.out
            subst eo22
            try go_wp2
            have n0_ := Aside0.mk (Kd.V_drew HO_367003.out)
            have n1_ := Aside0.mk (Kd.V_drew HO_367004.out)
            have n2_ := Aside0.mk (blk_drew BK366.out)
            have n3_ := Aside0.mk (below_drew1 HB.out)
            clear HO_367003
            clear HO_367004
            clear BK366
            clear HB
            have HO_367003 := n0_
            have HO_367004 := n1_
            have BK366 := n2_
            have HB := n3_
            clear n0_ n1_ n2_ n3_
            have p368 : 0 ≤ (x10_2 : Int) := dT
            have q368 : x10_2 < (x367003_1.length : Int) := dT
            obtain ⟨ad368, e368, hx368_0, hx368_1⟩ := at_T64 (Kd.V_reads' HO_367003.out).2.2 x10_2 p368 q368
            cases e368
            replace p368 := eq_true p368
            replace q368 := eq_true q368
            have p369 : 0 ≤ (x10_2 : Int) := dT
            have q369 : x10_2 < (x367003_1.length : Int) := dT
            obtain ⟨ad369, e369, hx369_0, hx369_1⟩ := at_T64 (Kd.V_reads' HO_367003.out).2.2 x10_2 p369 q369
            obtain rfl : ad368 = ad369 := (by injection e369)
            replace p369 := eq_true p369
            replace q369 := eq_true q369
            refine start_ (n := 17) (S := fun w' => w'.cell? ⟨gb366, 0, none⟩ = some (.int .i64 x367000_1) ∧ w'.cell? ⟨gb366, 1, none⟩ = some (.int .i64 x367001_1) ∧ w'.cell? ⟨gb366, 2, none⟩ = some (.int .i64 x367002_1) ∧ w'.cell? ⟨gb366, 3, none⟩ = some (.slice (some ad368) x367003_1.length co22) ∧ w'.cell? ⟨gb366, 4, none⟩ = some (u367004) ∧ w'.cell? (ad368.add ((x10_2).toNat * 2)) = some (.int .i64 ((rd_T64 x367003_1 x10_2).f0)) ∧ w'.cell? ⟨(ad368.add ((x10_2).toNat * 2)).block, (ad368.add ((x10_2).toNat * 2)).off + 1, none⟩ = some (.int .i64 ((rd_T64 x367003_1 x10_2).f1)) ∧ w'.cell? (ad368.add ((x10_2).toNat * 2)) = some (.int .i64 ((rd_T64 x367003_1 x10_2).f0)) ∧ w'.cell? ⟨(ad368.add ((x10_2).toNat * 2)).block, (ad368.add ((x10_2).toNat * 2)).off + 1, none⟩ = some (.int .i64 ((rd_T64 x367003_1 x10_2).f1))) (ds := []) #[false, false, false, false, false, false, false, false, false, false, false, false, false, false, false, false, false] (by kernel_rfl) rfl rfl ⟨(blk_cell BK366.out 0).trans rfl, (blk_cell BK366.out 1).trans rfl, (blk_cell BK366.out 2).trans rfl, (blk_cell BK366.out 3).trans rfl, (blk_cell BK366.out 4).trans rfl, hx368_0, hx368_1, hx369_0, hx369_1⟩ (fun hHeld => ?_); refine with_tabW OO_.tab9 OO_.bits9 (fun HT_ HW_ => ?_)
            generalize wr.drew = w23 at HO_367003 HO_367004 BK366 HB hx368_0 hx368_1 hx369_0 hx369_1 hHeld ⊢
            refine pure_ (i := 0) (N := some 29) (v := ?_) (a' := ?_) #[true, false, false, false, false, false, false, false, false, false, false, false, false, false, false, false, false] rfl rfl (any_of HT_.out (by kernel_rfl)) (fun _ _ _ h => h) (Or.inl ⟨by rfl, ?_⟩) ?_ ?_
            rotate_left
            ·
             intro w'
             go_simp
             with_reducible rfl
            rotate_left
            ·
             simp only [Act.put, List.setIfInBounds_toArray, List.set_cons_zero, List.set_cons_succ, i64_w, i32_w]
             rfl
            refine pure_ (i := 1) (N := some 30) (v := ?_) (a' := ?_) #[true, true, false, false, false, false, false, false, false, false, false, false, false, false, false, false, false] rfl rfl (any_of HT_.out (by kernel_rfl)) (fun _ _ _ h => h) (Or.inl ⟨by rfl, ?_⟩) ?_ ?_
            rotate_left
            ·
             intro w'
             go_simp
             with_reducible rfl
            rotate_left
            ·
             simp only [Act.put, List.setIfInBounds_toArray, List.set_cons_zero, List.set_cons_succ, i64_w, i32_w]
             rfl
            refine pure_ (i := 3) (N := some 32) (v := ?_) (a' := ?_) #[true, true, false, true, false, false, false, false, false, false, false, false, false, false, false, false, false] rfl rfl (any_of HT_.out (by kernel_rfl)) (fun _ _ _ h => h) (Or.inl ⟨by rfl, ?_⟩) ?_ ?_
            rotate_left
            ·
             intro w'
             go_simp
             with_reducible rfl
            rotate_left
            ·
             simp only [Act.put, List.setIfInBounds_toArray, List.set_cons_zero, List.set_cons_succ, i64_w, i32_w]
             rfl
            refine pure_ (i := 7) (N := some 36) (v := ?_) (a' := ?_) #[true, true, false, true, false, false, false, true, false, false, false, false, false, false, false, false, false] rfl rfl (any_of HT_.out (by kernel_rfl)) (fun _ _ _ h => h) (Or.inl ⟨by rfl, ?_⟩) ?_ ?_
            rotate_left
            ·
             intro w'
             go_simp
             with_reducible rfl
            rotate_left
            ·
             simp only [Act.put, List.setIfInBounds_toArray, List.set_cons_zero, List.set_cons_succ, i64_w, i32_w]
             rfl
            refine pure_ (i := 9) (N := some 38) (v := ?_) (a' := ?_) #[true, true, false, true, false, false, false, true, false, true, false, false, false, false, false, false, false] rfl rfl (any_of HT_.out (by kernel_rfl)) (fun _ _ _ h => h) (Or.inl ⟨by rfl, ?_⟩) ?_ ?_
            rotate_left
            ·
             intro w'
             go_simp
             with_reducible rfl
            rotate_left
            ·
             simp only [Act.put, List.setIfInBounds_toArray, List.set_cons_zero, List.set_cons_succ, i64_w, i32_w]
             rfl
            refine pure_ (i := 15) (N := some 44) (v := ?_) (a' := ?_) #[true, true, false, true, false, false, false, true, false, true, false, false, false, false, false, true, false] rfl rfl (any_of HT_.out (by kernel_rfl)) (fun _ _ _ h => h) (Or.inl ⟨by rfl, ?_⟩) ?_ ?_
            rotate_left
            ·
             intro w'
             go_simp
             with_reducible rfl
            rotate_left
            ·
             simp only [Act.put, List.setIfInBounds_toArray, List.set_cons_zero, List.set_cons_succ, i64_w, i32_w]
             rfl
            refine take_ (i := 2) (N := some 31) (v := ?_) (a' := ?_) #[true, true, true, true, false, false, false, true, false, true, false, false, false, false, false, true, false] rfl rfl (take_ofW HT_.out HW_.out (by kernel_rfl)) (fun _ _ _ h => h) (Or.inl ⟨by rfl, ?_⟩) hHeld ?_ ?_
            rotate_left
            ·
             rintro w' ⟨s0, s1, s2, s3, s4, s5, s6, s7, s8⟩
             go_simp
             with_reducible rfl
            rotate_left
            ·
             simp only [Act.put, List.setIfInBounds_toArray, List.set_cons_zero, List.set_cons_succ, i64_w, i32_w]
             rfl
            refine pure_ (i := 4) (N := some 33) (v := ?_) (a' := ?_) #[true, true, true, true, true, false, false, true, false, true, false, false, false, false, false, true, false] rfl rfl (any_of HT_.out (by kernel_rfl)) (fun _ _ _ h => h) (Or.inl ⟨by rfl, ?_⟩) ?_ ?_
            rotate_left
            ·
             intro w'
             go_simp
             with_reducible rfl
            rotate_left
            ·
             simp only [Act.put, List.setIfInBounds_toArray, List.set_cons_zero, List.set_cons_succ, i64_w, i32_w]
             rfl
            refine pure_ (i := 5) (N := some 34) (v := ?_) (a' := ?_) #[true, true, true, true, true, true, false, true, false, true, false, false, false, false, false, true, false] rfl rfl (any_of HT_.out (by kernel_rfl)) (fun _ _ _ h => h) (Or.inl ⟨by rfl, ?_⟩) ?_ ?_
            rotate_left
            ·
             intro w'
             go_simp
             with_reducible rfl
            rotate_left
            ·
             simp only [Act.put, List.setIfInBounds_toArray, List.set_cons_zero, List.set_cons_succ, i64_w, i32_w]
             rfl
            refine take_ (i := 6) (N := some 35) (v := ?_) (a' := ?_) #[true, true, true, true, true, true, true, true, false, true, false, false, false, false, false, true, false] rfl rfl (take_ofW HT_.out HW_.out (by kernel_rfl)) (fun _ _ _ h => h) (Or.inl ⟨by rfl, ?_⟩) hHeld ?_ ?_
            rotate_left
            ·
             rintro w' ⟨s0, s1, s2, s3, s4, s5, s6, s7, s8⟩
             go_simp
             with_reducible rfl
            rotate_left
            ·
             simp only [Act.put, List.setIfInBounds_toArray, List.set_cons_zero, List.set_cons_succ, i64_w, i32_w]
             rfl
            refine take_ (i := 8) (N := some 37) (v := ?_) (a' := ?_) #[true, true, true, true, true, true, true, true, true, true, false, false, false, false, false, true, false] rfl rfl (take_ofW HT_.out HW_.out (by kernel_rfl)) (fun _ _ _ h => h) (Or.inl ⟨by rfl, ?_⟩) hHeld ?_ ?_
            rotate_left
            ·
             rintro w' ⟨s0, s1, s2, s3, s4, s5, s6, s7, s8⟩
             go_simp
             with_reducible rfl
            rotate_left
            ·
             simp only [Act.put, List.setIfInBounds_toArray, List.set_cons_zero, List.set_cons_succ, i64_w, i32_w]
             rfl
            refine pure_ (i := 10) (N := some 39) (v := ?_) (a' := ?_) #[true, true, true, true, true, true, true, true, true, true, true, false, false, false, false, true, false] rfl rfl (any_of HT_.out (by kernel_rfl)) (fun _ _ _ h => h) (Or.inl ⟨by rfl, ?_⟩) ?_ ?_
            rotate_left
            ·
             intro w'
             go_simp
             with_reducible rfl
            rotate_left
            ·
             simp only [Act.put, List.setIfInBounds_toArray, List.set_cons_zero, List.set_cons_succ, i64_w, i32_w]
             rfl
            refine pure_ (i := 11) (N := some 40) (v := ?_) (a' := ?_) #[true, true, true, true, true, true, true, true, true, true, true, true, false, false, false, true, false] rfl rfl (any_of HT_.out (by kernel_rfl)) (fun _ _ _ h => h) (Or.inl ⟨by rfl, ?_⟩) ?_ ?_
            rotate_left
            ·
             intro w'
             go_simp
             with_reducible rfl
            rotate_left
            ·
             simp only [Act.put, List.setIfInBounds_toArray, List.set_cons_zero, List.set_cons_succ, i64_w, i32_w]
             rfl
            refine take_ (i := 12) (N := some 41) (v := ?_) (a' := ?_) #[true, true, true, true, true, true, true, true, true, true, true, true, true, false, false, true, false] rfl rfl (take_ofW HT_.out HW_.out (by kernel_rfl)) (fun _ _ _ h => h) (Or.inl ⟨by rfl, ?_⟩) hHeld ?_ ?_
            rotate_left
            ·
             rintro w' ⟨s0, s1, s2, s3, s4, s5, s6, s7, s8⟩
             go_simp
             with_reducible rfl
            rotate_left
            ·
             simp only [Act.put, List.setIfInBounds_toArray, List.set_cons_zero, List.set_cons_succ, i64_w, i32_w]
             rfl
            refine pure_ (i := 13) (N := some 42) (v := ?_) (a' := ?_) #[true, true, true, true, true, true, true, true, true, true, true, true, true, true, false, true, false] rfl rfl (any_of HT_.out (by kernel_rfl)) (fun _ _ _ h => h) (Or.inl ⟨by rfl, ?_⟩) ?_ ?_
            rotate_left
            ·
             intro w'
             go_simp
             with_reducible rfl
            rotate_left
            ·
             simp only [Act.put, List.setIfInBounds_toArray, List.set_cons_zero, List.set_cons_succ, i64_w, i32_w]
             rfl
            refine one_ (i := 14) (N := some 43) #[true, true, true, true, true, true, true, true, true, true, true, true, true, true, true, true, false] rfl rfl (one_of HT_.out (by kernel_rfl)) (by decide) (fun K hK => ?_)
            refine goes_ Tryz.func28 (by kernel_rfl) rfl #[.string (a0.extract (((rd_T64 x367003_1 x10_2).f0) : Int).toNat (((rd_T64 x367003_1 x10_2).f1) : Int).toNat)] (by rfl) rfl rfl zM ?_
            with_reducible refine (Unq_.calls k2 (a0.extract (((rd_T64 x367003_1 x10_2).f0) : Int).toNat (((rd_T64 x367003_1 x10_2).f1) : Int).toNat) t370 _ A15.out).mono ?_
            rintro e w24 ⟨rfl, hb⟩
            have HS5_ := (hb.cell (World.block_lt_of_cell? _ _ (hHeld.2.2.2.2.2.1))).trans (hHeld.2.2.2.2.2.1)
            have HS6_ := (hb.cell (World.block_lt_of_cell? _ _ (hHeld.2.2.2.2.2.2.1))).trans (hHeld.2.2.2.2.2.2.1)
            have HS7_ := (hb.cell (World.block_lt_of_cell? _ _ (hHeld.2.2.2.2.2.2.2.1))).trans (hHeld.2.2.2.2.2.2.2.1)
            have HS8_ := (hb.cell (World.block_lt_of_cell? _ _ (hHeld.2.2.2.2.2.2.2.2))).trans (hHeld.2.2.2.2.2.2.2.2)
            refine ⟨_, rfl, ?_⟩
            have n0_ := zvb HO_367003 hb
            have n1_ := zvb HO_367004 hb
            have n2_ := zbb BK366 hb
            have n3_ := zbs HB hb
            clear HO_367003
            clear HO_367004
            clear BK366
            clear HB
            have HO_367003 := n0_
            have HO_367004 := n1_
            have BK366 := n2_
            have HB := n3_
            clear n0_ n1_ n2_ n3_
            (try clear hb)
            (try clear hb2)
            (try clear hk)
            (try clear hi)
            refine hK.out _ _ ⟨(blk_cell BK366.out 0).trans rfl, (blk_cell BK366.out 1).trans rfl, (blk_cell BK366.out 2).trans rfl, (blk_cell BK366.out 3).trans rfl, (blk_cell BK366.out 4).trans rfl, HS5_, HS6_, HS7_, HS8_⟩ (fun hHeld => ?_)
            clear hK K
            refine norm_ (a' := ?_) ?_ ?_
            rotate_left
            ·
             show Act.put _ (some 43) _ = _
             simp only [Act.put, List.setIfInBounds_toArray, List.set_cons_zero, List.set_cons_succ, i64_w, i32_w]
             rfl
            refine pure_ (i := 16) (N := some 45) (v := ?_) (a' := ?_) #[true, true, true, true, true, true, true, true, true, true, true, true, true, true, true, true, true] rfl rfl (any_of HT_.out (by kernel_rfl)) (fun _ _ _ h => h) (Or.inl ⟨by rfl, ?_⟩) ?_ ?_
            rotate_left
            ·
             intro w'
             go_simp
             with_reducible rfl
            rotate_left
            ·
             simp only [Act.put, List.setIfInBounds_toArray, List.set_cons_zero, List.set_cons_succ, i64_w, i32_w]
             rfl
            refine done_ (done_of HT_.out (by kernel_rfl)) ?_
            try go_wp2
            go_roundg k2
            case measure => have := HK1.out; have := HK2.out; omega
            case rel => exact ⟨(x9_2), (wrap64 (x10_2 + 1)), zE, zE, H', ⟨by have := HK1.out; have := HK2.out; omega⟩, ⟨by (with_reducible repeat (first | apply Kd.V_alloc | apply Kd.V_drewN | apply Kd.V_drew)); exact HO_367003.out⟩, ⟨by (with_reducible repeat (first | apply Kd.V_alloc | apply Kd.V_drewN | apply Kd.V_drew)); exact HO_367004.out⟩, ⟨zbx BK366⟩, ⟨zB HB.out⟩⟩
           rw [if_neg c14] at H
           exact absurd H (by simp)
          rw [if_neg c13] at H
          exact absurd H (by simp)
         rw [if_neg c12] at H
         exact absurd H (by simp)
        rw [if_neg c11] at H
        exact absurd H (by simp)
       rw [if_neg c10] at H
       have c10b0 := decide_eq_false c10
       clear c10
       by_cases c25 : x9_2 > 1
       ·
        rw [if_pos c25] at H
        have c25b0 := decide_eq_true c25
        clear c25
        obtain rfl := Option.some.inj H
        have hz26 := zc5 BK366.out
        obtain ⟨Ao27, co27, eo27⟩ := Kd.V_slice HO_367003.out
        subst eo27
        go_wp2
        go_ret
        exact ⟨zX, zB HB.out⟩
       rw [if_neg c25] at H
       have c25b0 := decide_eq_false c25
       clear c25
       replace H := Option.bind_eq_some_iff.mp H
       obtain ⟨⟨t371, t372, t373, t374, t377, t380⟩, A280, H⟩ := H
       try dsimp only at H
       have A28 := Aside0.mk A280
       clear A280
       by_cases c29 : t380 = true
       ·
        subst c29
        rw [if_pos rfl] at H
        have H' := Aside0.mk H
        clear H
        have hz30 := zc5 BK366.out
        obtain ⟨Ao31, co31, eo31⟩ := Kd.V_slice HO_367003.out
        subst eo31
        obtain ⟨Ao32, co32, eo32⟩ := Kd.V_slice HO_367004.out
        subst eo32
        go_wp2_with (first | ((with_reducible refine gate_callee (f := 17) rfl ?_); refine goesL_ (some 54) rfl rfl Tryz.func17 (by kernel_rfl) rfl #[.string a0, .agg #[.int .i64 x367000_1, .int .i64 x367001_1, .int .i64 x367002_1, .slice Ao31 x367003_1.length co31, .slice Ao32 x367004_1.length co32], .string (rdOf ByteArray.empty l2 x15_1)] rfl zM ?_; (with_reducible refine (SS_.calls k2 a0 x367000_1 x367001_1 x367002_1 _ _ x367003_1 (fun k_ => (((P1_3_ k_ ∨ P1_4_ k_) ∨ w.heap.size ≤ k_) ∧ k_ ≠ gb366)) _ _ x367004_1 (rdOf ByteArray.empty l2 x15_1) t371 t372 t373 t374 t377 true _ ?side1 ?side2 ?side3 A28.out).mono ?_); (case side1 => repeat (first | exact (Kd.V_reads' HO_367003.out).2.2 | (with_reducible refine Kd.C_alloc ?_ _) | (with_reducible refine Kd.C_drewN ?_ _) | (with_reducible refine Kd.C_drew ?_))); (case side2 => exact (Kd.V_reads' HO_367003.out).2.1); (case side3 => exact HO_367004.out); rintro e w33 ⟨v375, v378, rfl, ho0, ho1, hb⟩; refine ⟨_, rfl, ?_⟩; replace HO_367003 := zvb HO_367003 hb; replace HO_367004 := zvb HO_367004 hb; have HO376 := Aside0.mk (Kd.V_lower (Kd.V_mono (ok' := fun k_ => ((P1_3_ k_ ∨ P1_4_ k_) ∨ w.heap.size ≤ k_) ∧ k_ ≠ gb366) ho0 (fun k_ hk_ => ⟨Or.elim hk_ (fun hs_ => hs_.1) (fun hn_ => (.inr (Nat.le_trans (below_size (zB HB.out)) hn_))), Or.elim hk_ (fun hs_ => hs_.2) (fun hn_ => (Kd.freshB (g := gb366) (o := .cells #[.int .i64 x367000_1, .int .i64 x367001_1, .int .i64 x367002_1, .slice Ao31 x367003_1.length co31, .slice Ao32 x367004_1.length co32] 27 (0, 0)) (by (repeat refine zb ?_); exact BK366.out) k_ hn_))⟩)) (below_size (zB HB.out))); have HO379 := Aside0.mk (Kd.V_lower (Kd.V_mono (ok' := fun k_ => ((P1_3_ k_ ∨ P1_4_ k_) ∨ w.heap.size ≤ k_) ∧ k_ ≠ gb366) ho1 (fun k_ hk_ => ⟨Or.elim hk_ (fun hs_ => hs_.1) (fun hn_ => (.inr (Nat.le_trans (below_size (zB HB.out)) hn_))), Or.elim hk_ (fun hs_ => hs_.2) (fun hn_ => (Kd.freshB (g := gb366) (o := .cells #[.int .i64 x367000_1, .int .i64 x367001_1, .int .i64 x367002_1, .slice Ao31 x367003_1.length co31, .slice Ao32 x367004_1.length co32] 27 (0, 0)) (by (repeat refine zb ?_); exact BK366.out) k_ hn_))⟩)) (below_size (zB HB.out))); replace BK366 := zbb BK366 hb; replace HB := zbs HB hb; clear hb; (try clear ho0); (try clear ho1)) | ((with_reducible refine gate_dst (N := 11) rfl ?_); refine zbo (N := 11) (cs := #[.int .i64 0, .int .i64 0, .int .i64 0, .slice none 0 0, .slice none 0 0]) (t := 27) ?_; intro gb381 hg w34 hbox hb; replace HO_367003 := zve HO_367003 hg hb; replace HO_367004 := zve HO_367004 hg hb; replace HO376 := zve HO376 hg hb; replace HO379 := zve HO379 hg hb; have BK381 := Aside0.mk (hbox); have GW381 := zgw hg HB; have GE381 := zgw hg HB; replace HB := zbs HB hb; have NB366_381 := znl hg BK366; have NB381_366 := zng hg BK366; replace BK366 := zbb BK366 hb; clear hb hbox hg; have hnb35 := NB381_366.out; have hnc35 := NB366_381.out; have hz36 := zc5 BK381.out; obtain ⟨Ao37, co37, eo37⟩ := Kd.V_slice HO376.out; subst eo37; obtain ⟨Ao38, co38, eo38⟩ := Kd.V_slice HO379.out; subst eo38; have hz39 := zc5 BK366.out))
        go_roundg k2
        case measure => have := HK1.out; have := HK2.out; omega
        case rel => exact ⟨(wrap64 (x15_1 + 1)), (t371), (t372), (t373), (t374), (t377), (.slice Ao37 t374.length co37), (.slice Ao38 t377.length co38), zE, H', ⟨by have := HK1.out; have := HK2.out; omega⟩, ⟨by (with_reducible repeat (first | apply Kd.V_alloc | apply Kd.V_drewN | apply Kd.V_drew)); exact Kd.V_mono (Kd.V_far (p := ⟨gb366, 4, none⟩) (Kd.V_far (p := ⟨gb366, 3, none⟩) (Kd.V_far (p := ⟨gb366, 2, none⟩) (Kd.V_far (p := ⟨gb366, 1, none⟩) (Kd.V_far (p := ⟨gb366, 0, none⟩) (Kd.V_far (p := ⟨gb381, 4, none⟩) (Kd.V_far (p := ⟨gb381, 3, none⟩) (Kd.V_far (p := ⟨gb381, 2, none⟩) (Kd.V_far (p := ⟨gb381, 1, none⟩) (Kd.V_far (p := ⟨gb381, 0, none⟩) (Kd.V_mono (Kd.V_mono HO376.out (fun k_ hk => (⟨hk, hk.2⟩ : _ ∧ k_ ≠ gb381))) (fun k_ hk => (⟨hk, hk.1.1.2⟩ : _ ∧ k_ ≠ gb366))) (fun _ hk => hk.1.2) (.int .i64 t371)) (fun _ hk => hk.1.2) (.int .i64 t372)) (fun _ hk => hk.1.2) (.int .i64 t373)) (fun _ hk => hk.1.2) (.slice Ao37 t374.length co37)) (fun _ hk => hk.1.2) (.slice Ao38 t377.length co38)) (fun _ hk => hk.2) (.int .i64 t371)) (fun _ hk => hk.2) (.int .i64 t372)) (fun _ hk => hk.2) (.int .i64 t373)) (fun _ hk => hk.2) (.slice Ao37 t374.length co37)) (fun _ hk => hk.2) (.slice Ao38 t377.length co38)) (fun _ hk => ⟨hk.1.1.1.1, hk.1.1.1.2⟩)⟩, ⟨by (with_reducible repeat (first | apply Kd.V_alloc | apply Kd.V_drewN | apply Kd.V_drew)); exact Kd.V_mono (Kd.V_far (p := ⟨gb366, 4, none⟩) (Kd.V_far (p := ⟨gb366, 3, none⟩) (Kd.V_far (p := ⟨gb366, 2, none⟩) (Kd.V_far (p := ⟨gb366, 1, none⟩) (Kd.V_far (p := ⟨gb366, 0, none⟩) (Kd.V_far (p := ⟨gb381, 4, none⟩) (Kd.V_far (p := ⟨gb381, 3, none⟩) (Kd.V_far (p := ⟨gb381, 2, none⟩) (Kd.V_far (p := ⟨gb381, 1, none⟩) (Kd.V_far (p := ⟨gb381, 0, none⟩) (Kd.V_mono (Kd.V_mono HO379.out (fun k_ hk => (⟨hk, hk.2⟩ : _ ∧ k_ ≠ gb381))) (fun k_ hk => (⟨hk, hk.1.1.2⟩ : _ ∧ k_ ≠ gb366))) (fun _ hk => hk.1.2) (.int .i64 t371)) (fun _ hk => hk.1.2) (.int .i64 t372)) (fun _ hk => hk.1.2) (.int .i64 t373)) (fun _ hk => hk.1.2) (.slice Ao37 t374.length co37)) (fun _ hk => hk.1.2) (.slice Ao38 t377.length co38)) (fun _ hk => hk.2) (.int .i64 t371)) (fun _ hk => hk.2) (.int .i64 t372)) (fun _ hk => hk.2) (.int .i64 t373)) (fun _ hk => hk.2) (.slice Ao37 t374.length co37)) (fun _ hk => hk.2) (.slice Ao38 t377.length co38)) (fun _ hk => ⟨hk.1.1.1.1, hk.1.1.1.2⟩)⟩, ⟨by (repeat refine zb ?_); refine blk_put (cs := #[.int .i64 t371, .int .i64 t372, .int .i64 t373, .slice Ao37 t374.length co37, .slice Ao32 x367004_1.length co32]) ?_ 4 _ rfl; (repeat refine zb ?_); refine blk_put (cs := #[.int .i64 t371, .int .i64 t372, .int .i64 t373, .slice Ao31 x367003_1.length co31, .slice Ao32 x367004_1.length co32]) ?_ 3 _ rfl; (repeat refine zb ?_); refine blk_put (cs := #[.int .i64 t371, .int .i64 t372, .int .i64 x367002_1, .slice Ao31 x367003_1.length co31, .slice Ao32 x367004_1.length co32]) ?_ 2 _ rfl; (repeat refine zb ?_); refine blk_put (cs := #[.int .i64 t371, .int .i64 x367001_1, .int .i64 x367002_1, .slice Ao31 x367003_1.length co31, .slice Ao32 x367004_1.length co32]) ?_ 1 _ rfl; (repeat refine zb ?_); refine blk_put (cs := #[.int .i64 x367000_1, .int .i64 x367001_1, .int .i64 x367002_1, .slice Ao31 x367003_1.length co31, .slice Ao32 x367004_1.length co32]) ?_ 0 _ rfl; (repeat refine zb ?_); refine blk_far ?_ NB366_381.out _; (repeat refine zb ?_); refine blk_far ?_ NB366_381.out _; (repeat refine zb ?_); refine blk_far ?_ NB366_381.out _; (repeat refine zb ?_); refine blk_far ?_ NB366_381.out _; (repeat refine zb ?_); refine blk_far ?_ NB366_381.out _; (repeat refine zb ?_); exact BK366.out⟩, ⟨zB HB.out⟩⟩
       replace c29 := Bool.eq_false_iff.mpr c29
       subst c29
       rw [if_neg Bool.false_ne_true] at H
       obtain rfl := Option.some.inj H
       have hz40 := zc5 BK366.out
       obtain ⟨Ao41, co41, eo41⟩ := Kd.V_slice HO_367003.out
       subst eo41
       obtain ⟨Ao42, co42, eo42⟩ := Kd.V_slice HO_367004.out
       subst eo42
       go_wp2_with (first | ((with_reducible refine gate_callee (f := 17) rfl ?_); refine goesL_ (some 54) rfl rfl Tryz.func17 (by kernel_rfl) rfl #[.string a0, .agg #[.int .i64 x367000_1, .int .i64 x367001_1, .int .i64 x367002_1, .slice Ao41 x367003_1.length co41, .slice Ao42 x367004_1.length co42], .string (rdOf ByteArray.empty l2 x15_1)] rfl zM ?_; (with_reducible refine (SS_.calls k2 a0 x367000_1 x367001_1 x367002_1 _ _ x367003_1 (fun k_ => (((P1_3_ k_ ∨ P1_4_ k_) ∨ w.heap.size ≤ k_) ∧ k_ ≠ gb366)) _ _ x367004_1 (rdOf ByteArray.empty l2 x15_1) t371 t372 t373 t374 t377 false _ ?side1 ?side2 ?side3 A28.out).mono ?_); (case side1 => repeat (first | exact (Kd.V_reads' HO_367003.out).2.2 | (with_reducible refine Kd.C_alloc ?_ _) | (with_reducible refine Kd.C_drewN ?_ _) | (with_reducible refine Kd.C_drew ?_))); (case side2 => exact (Kd.V_reads' HO_367003.out).2.1); (case side3 => exact HO_367004.out); rintro e w43 ⟨v375, v378, rfl, ho0, ho1, hb⟩; refine ⟨_, rfl, ?_⟩; replace HO_367003 := zvb HO_367003 hb; replace HO_367004 := zvb HO_367004 hb; have HO376 := Aside0.mk (Kd.V_lower (Kd.V_mono (ok' := fun k_ => ((P1_3_ k_ ∨ P1_4_ k_) ∨ w.heap.size ≤ k_) ∧ k_ ≠ gb366) ho0 (fun k_ hk_ => ⟨Or.elim hk_ (fun hs_ => hs_.1) (fun hn_ => (.inr (Nat.le_trans (below_size (zB HB.out)) hn_))), Or.elim hk_ (fun hs_ => hs_.2) (fun hn_ => (Kd.freshB (g := gb366) (o := .cells #[.int .i64 x367000_1, .int .i64 x367001_1, .int .i64 x367002_1, .slice Ao41 x367003_1.length co41, .slice Ao42 x367004_1.length co42] 27 (0, 0)) (by (repeat refine zb ?_); exact BK366.out) k_ hn_))⟩)) (below_size (zB HB.out))); have HO379 := Aside0.mk (Kd.V_lower (Kd.V_mono (ok' := fun k_ => ((P1_3_ k_ ∨ P1_4_ k_) ∨ w.heap.size ≤ k_) ∧ k_ ≠ gb366) ho1 (fun k_ hk_ => ⟨Or.elim hk_ (fun hs_ => hs_.1) (fun hn_ => (.inr (Nat.le_trans (below_size (zB HB.out)) hn_))), Or.elim hk_ (fun hs_ => hs_.2) (fun hn_ => (Kd.freshB (g := gb366) (o := .cells #[.int .i64 x367000_1, .int .i64 x367001_1, .int .i64 x367002_1, .slice Ao41 x367003_1.length co41, .slice Ao42 x367004_1.length co42] 27 (0, 0)) (by (repeat refine zb ?_); exact BK366.out) k_ hn_))⟩)) (below_size (zB HB.out))); replace BK366 := zbb BK366 hb; replace HB := zbs HB hb; clear hb; (try clear ho0); (try clear ho1)) | ((with_reducible refine gate_dst (N := 11) rfl ?_); refine zbo (N := 11) (cs := #[.int .i64 0, .int .i64 0, .int .i64 0, .slice none 0 0, .slice none 0 0]) (t := 27) ?_; intro gb381 hg w44 hbox hb; replace HO_367003 := zve HO_367003 hg hb; replace HO_367004 := zve HO_367004 hg hb; replace HO376 := zve HO376 hg hb; replace HO379 := zve HO379 hg hb; have BK381 := Aside0.mk (hbox); have GW381 := zgw hg HB; have GE381 := zgw hg HB; replace HB := zbs HB hb; have NB366_381 := znl hg BK366; have NB381_366 := zng hg BK366; replace BK366 := zbb BK366 hb; clear hb hbox hg; have hnb45 := NB381_366.out; have hnc45 := NB366_381.out; have hz46 := zc5 BK381.out; obtain ⟨Ao47, co47, eo47⟩ := Kd.V_slice HO376.out; subst eo47; obtain ⟨Ao48, co48, eo48⟩ := Kd.V_slice HO379.out; subst eo48))
       go_ret
       exact ⟨zX, zB HB.out⟩
     rw [if_neg c8] at H
     have c8b0 := beq_eq_false_iff_ne.mpr c8
     have c8b1 := bne_iff_ne.mpr c8
     replace H := Option.bind_eq_some_iff.mp H
     obtain ⟨⟨t382, t383, t384, t385, t388, t391⟩, A490, H⟩ := H
     try dsimp only at H
     have A49 := Aside0.mk A490
     clear A490
     by_cases c50 : t391 = true
     ·
      subst c50
      rw [if_pos rfl] at H
      have H' := Aside0.mk H
      clear H
      have p367 : 0 ≤ (x15_1 : Int) := dT
      have q367 : x15_1 < (l2.length : Int) := dT
      obtain ⟨ad367, e367, hx367_0⟩ := Kd.at_string HR2.out x15_1 p367 q367
      cases e367
      replace hx367_0 := zH HB.out hx367_0
      replace p367 := eq_true p367
      replace q367 := eq_true q367
      have hz51 := zc5 BK366.out
      obtain ⟨Ao52, co52, eo52⟩ := Kd.V_slice HO_367003.out
      subst eo52
      obtain ⟨Ao53, co53, eo53⟩ := Kd.V_slice HO_367004.out
      subst eo53
      go_wp2_with (first | ((with_reducible refine gate_callee (f := 17) rfl ?_); refine goesL_ (some 54) rfl rfl Tryz.func17 (by kernel_rfl) rfl #[.string a0, .agg #[.int .i64 x367000_1, .int .i64 x367001_1, .int .i64 x367002_1, .slice Ao52 x367003_1.length co52, .slice Ao53 x367004_1.length co53], .string (rdOf ByteArray.empty l2 x15_1)] rfl zM ?_; (with_reducible refine (SS_.calls k1 a0 x367000_1 x367001_1 x367002_1 _ _ x367003_1 (fun k_ => (((P1_3_ k_ ∨ P1_4_ k_) ∨ w.heap.size ≤ k_) ∧ k_ ≠ gb366)) _ _ x367004_1 (rdOf ByteArray.empty l2 x15_1) t382 t383 t384 t385 t388 true _ ?side1 ?side2 ?side3 A49.out).mono ?_); (case side1 => repeat (first | exact (Kd.V_reads' HO_367003.out).2.2 | (with_reducible refine Kd.C_alloc ?_ _) | (with_reducible refine Kd.C_drewN ?_ _) | (with_reducible refine Kd.C_drew ?_))); (case side2 => exact (Kd.V_reads' HO_367003.out).2.1); (case side3 => exact HO_367004.out); rintro e w54 ⟨v386, v389, rfl, ho0, ho1, hb⟩; refine ⟨_, rfl, ?_⟩; replace HO_367003 := zvb HO_367003 hb; replace HO_367004 := zvb HO_367004 hb; have HO387 := Aside0.mk (Kd.V_lower (Kd.V_mono (ok' := fun k_ => ((P1_3_ k_ ∨ P1_4_ k_) ∨ w.heap.size ≤ k_) ∧ k_ ≠ gb366) ho0 (fun k_ hk_ => ⟨Or.elim hk_ (fun hs_ => hs_.1) (fun hn_ => (.inr (Nat.le_trans (below_size (zB HB.out)) hn_))), Or.elim hk_ (fun hs_ => hs_.2) (fun hn_ => (Kd.freshB (g := gb366) (o := .cells #[.int .i64 x367000_1, .int .i64 x367001_1, .int .i64 x367002_1, .slice Ao52 x367003_1.length co52, .slice Ao53 x367004_1.length co53] 27 (0, 0)) (by (repeat refine zb ?_); exact BK366.out) k_ hn_))⟩)) (below_size (zB HB.out))); have HO390 := Aside0.mk (Kd.V_lower (Kd.V_mono (ok' := fun k_ => ((P1_3_ k_ ∨ P1_4_ k_) ∨ w.heap.size ≤ k_) ∧ k_ ≠ gb366) ho1 (fun k_ hk_ => ⟨Or.elim hk_ (fun hs_ => hs_.1) (fun hn_ => (.inr (Nat.le_trans (below_size (zB HB.out)) hn_))), Or.elim hk_ (fun hs_ => hs_.2) (fun hn_ => (Kd.freshB (g := gb366) (o := .cells #[.int .i64 x367000_1, .int .i64 x367001_1, .int .i64 x367002_1, .slice Ao52 x367003_1.length co52, .slice Ao53 x367004_1.length co53] 27 (0, 0)) (by (repeat refine zb ?_); exact BK366.out) k_ hn_))⟩)) (below_size (zB HB.out))); replace BK366 := zbb BK366 hb; replace HB := zbs HB hb; clear hb; (try clear ho0); (try clear ho1)) | ((with_reducible refine gate_dst (N := 11) rfl ?_); refine zbo (N := 11) (cs := #[.int .i64 0, .int .i64 0, .int .i64 0, .slice none 0 0, .slice none 0 0]) (t := 27) ?_; intro gb392 hg w55 hbox hb; replace HO_367003 := zve HO_367003 hg hb; replace HO_367004 := zve HO_367004 hg hb; replace HO387 := zve HO387 hg hb; replace HO390 := zve HO390 hg hb; have BK392 := Aside0.mk (hbox); have GW392 := zgw hg HB; have GE392 := zgw hg HB; replace HB := zbs HB hb; have NB366_392 := znl hg BK366; have NB392_366 := zng hg BK366; replace BK366 := zbb BK366 hb; clear hb hbox hg; have hnb56 := NB392_366.out; have hnc56 := NB366_392.out; have hz57 := zc5 BK392.out; obtain ⟨Ao58, co58, eo58⟩ := Kd.V_slice HO387.out; subst eo58; obtain ⟨Ao59, co59, eo59⟩ := Kd.V_slice HO390.out; subst eo59; have hz60 := zc5 BK366.out))
      go_roundg k1
      case measure => have := HK1.out; omega
      case rel => exact ⟨(wrap64 (x15_1 + 1)), (t382), (t383), (t384), (t385), (t388), (.slice Ao58 t385.length co58), (.slice Ao59 t388.length co59), zE, H', ⟨by have := HK1.out; omega⟩, ⟨by (with_reducible repeat (first | apply Kd.V_alloc | apply Kd.V_drewN | apply Kd.V_drew)); exact Kd.V_mono (Kd.V_far (p := ⟨gb366, 4, none⟩) (Kd.V_far (p := ⟨gb366, 3, none⟩) (Kd.V_far (p := ⟨gb366, 2, none⟩) (Kd.V_far (p := ⟨gb366, 1, none⟩) (Kd.V_far (p := ⟨gb366, 0, none⟩) (Kd.V_far (p := ⟨gb392, 4, none⟩) (Kd.V_far (p := ⟨gb392, 3, none⟩) (Kd.V_far (p := ⟨gb392, 2, none⟩) (Kd.V_far (p := ⟨gb392, 1, none⟩) (Kd.V_far (p := ⟨gb392, 0, none⟩) (Kd.V_mono (Kd.V_mono HO387.out (fun k_ hk => (⟨hk, hk.2⟩ : _ ∧ k_ ≠ gb392))) (fun k_ hk => (⟨hk, hk.1.1.2⟩ : _ ∧ k_ ≠ gb366))) (fun _ hk => hk.1.2) (.int .i64 t382)) (fun _ hk => hk.1.2) (.int .i64 t383)) (fun _ hk => hk.1.2) (.int .i64 t384)) (fun _ hk => hk.1.2) (.slice Ao58 t385.length co58)) (fun _ hk => hk.1.2) (.slice Ao59 t388.length co59)) (fun _ hk => hk.2) (.int .i64 t382)) (fun _ hk => hk.2) (.int .i64 t383)) (fun _ hk => hk.2) (.int .i64 t384)) (fun _ hk => hk.2) (.slice Ao58 t385.length co58)) (fun _ hk => hk.2) (.slice Ao59 t388.length co59)) (fun _ hk => ⟨hk.1.1.1.1, hk.1.1.1.2⟩)⟩, ⟨by (with_reducible repeat (first | apply Kd.V_alloc | apply Kd.V_drewN | apply Kd.V_drew)); exact Kd.V_mono (Kd.V_far (p := ⟨gb366, 4, none⟩) (Kd.V_far (p := ⟨gb366, 3, none⟩) (Kd.V_far (p := ⟨gb366, 2, none⟩) (Kd.V_far (p := ⟨gb366, 1, none⟩) (Kd.V_far (p := ⟨gb366, 0, none⟩) (Kd.V_far (p := ⟨gb392, 4, none⟩) (Kd.V_far (p := ⟨gb392, 3, none⟩) (Kd.V_far (p := ⟨gb392, 2, none⟩) (Kd.V_far (p := ⟨gb392, 1, none⟩) (Kd.V_far (p := ⟨gb392, 0, none⟩) (Kd.V_mono (Kd.V_mono HO390.out (fun k_ hk => (⟨hk, hk.2⟩ : _ ∧ k_ ≠ gb392))) (fun k_ hk => (⟨hk, hk.1.1.2⟩ : _ ∧ k_ ≠ gb366))) (fun _ hk => hk.1.2) (.int .i64 t382)) (fun _ hk => hk.1.2) (.int .i64 t383)) (fun _ hk => hk.1.2) (.int .i64 t384)) (fun _ hk => hk.1.2) (.slice Ao58 t385.length co58)) (fun _ hk => hk.1.2) (.slice Ao59 t388.length co59)) (fun _ hk => hk.2) (.int .i64 t382)) (fun _ hk => hk.2) (.int .i64 t383)) (fun _ hk => hk.2) (.int .i64 t384)) (fun _ hk => hk.2) (.slice Ao58 t385.length co58)) (fun _ hk => hk.2) (.slice Ao59 t388.length co59)) (fun _ hk => ⟨hk.1.1.1.1, hk.1.1.1.2⟩)⟩, ⟨by (repeat refine zb ?_); refine blk_put (cs := #[.int .i64 t382, .int .i64 t383, .int .i64 t384, .slice Ao58 t385.length co58, .slice Ao53 x367004_1.length co53]) ?_ 4 _ rfl; (repeat refine zb ?_); refine blk_put (cs := #[.int .i64 t382, .int .i64 t383, .int .i64 t384, .slice Ao52 x367003_1.length co52, .slice Ao53 x367004_1.length co53]) ?_ 3 _ rfl; (repeat refine zb ?_); refine blk_put (cs := #[.int .i64 t382, .int .i64 t383, .int .i64 x367002_1, .slice Ao52 x367003_1.length co52, .slice Ao53 x367004_1.length co53]) ?_ 2 _ rfl; (repeat refine zb ?_); refine blk_put (cs := #[.int .i64 t382, .int .i64 x367001_1, .int .i64 x367002_1, .slice Ao52 x367003_1.length co52, .slice Ao53 x367004_1.length co53]) ?_ 1 _ rfl; (repeat refine zb ?_); refine blk_put (cs := #[.int .i64 x367000_1, .int .i64 x367001_1, .int .i64 x367002_1, .slice Ao52 x367003_1.length co52, .slice Ao53 x367004_1.length co53]) ?_ 0 _ rfl; (repeat refine zb ?_); refine blk_far ?_ NB366_392.out _; (repeat refine zb ?_); refine blk_far ?_ NB366_392.out _; (repeat refine zb ?_); refine blk_far ?_ NB366_392.out _; (repeat refine zb ?_); refine blk_far ?_ NB366_392.out _; (repeat refine zb ?_); refine blk_far ?_ NB366_392.out _; (repeat refine zb ?_); exact BK366.out⟩, ⟨zB HB.out⟩⟩
     replace c50 := Bool.eq_false_iff.mpr c50
     subst c50
     rw [if_neg Bool.false_ne_true] at H
     obtain rfl := Option.some.inj H
     have p367 : 0 ≤ (x15_1 : Int) := dT
     have q367 : x15_1 < (l2.length : Int) := dT
     obtain ⟨ad367, e367, hx367_0⟩ := Kd.at_string HR2.out x15_1 p367 q367
     cases e367
     replace hx367_0 := zH HB.out hx367_0
     replace p367 := eq_true p367
     replace q367 := eq_true q367
     have hz61 := zc5 BK366.out
     obtain ⟨Ao62, co62, eo62⟩ := Kd.V_slice HO_367003.out
     subst eo62
     obtain ⟨Ao63, co63, eo63⟩ := Kd.V_slice HO_367004.out
     subst eo63
     go_wp2_with (first | ((with_reducible refine gate_callee (f := 17) rfl ?_); refine goesL_ (some 54) rfl rfl Tryz.func17 (by kernel_rfl) rfl #[.string a0, .agg #[.int .i64 x367000_1, .int .i64 x367001_1, .int .i64 x367002_1, .slice Ao62 x367003_1.length co62, .slice Ao63 x367004_1.length co63], .string (rdOf ByteArray.empty l2 x15_1)] rfl zM ?_; (with_reducible refine (SS_.calls k1 a0 x367000_1 x367001_1 x367002_1 _ _ x367003_1 (fun k_ => (((P1_3_ k_ ∨ P1_4_ k_) ∨ w.heap.size ≤ k_) ∧ k_ ≠ gb366)) _ _ x367004_1 (rdOf ByteArray.empty l2 x15_1) t382 t383 t384 t385 t388 false _ ?side1 ?side2 ?side3 A49.out).mono ?_); (case side1 => repeat (first | exact (Kd.V_reads' HO_367003.out).2.2 | (with_reducible refine Kd.C_alloc ?_ _) | (with_reducible refine Kd.C_drewN ?_ _) | (with_reducible refine Kd.C_drew ?_))); (case side2 => exact (Kd.V_reads' HO_367003.out).2.1); (case side3 => exact HO_367004.out); rintro e w64 ⟨v386, v389, rfl, ho0, ho1, hb⟩; refine ⟨_, rfl, ?_⟩; replace HO_367003 := zvb HO_367003 hb; replace HO_367004 := zvb HO_367004 hb; have HO387 := Aside0.mk (Kd.V_lower (Kd.V_mono (ok' := fun k_ => ((P1_3_ k_ ∨ P1_4_ k_) ∨ w.heap.size ≤ k_) ∧ k_ ≠ gb366) ho0 (fun k_ hk_ => ⟨Or.elim hk_ (fun hs_ => hs_.1) (fun hn_ => (.inr (Nat.le_trans (below_size (zB HB.out)) hn_))), Or.elim hk_ (fun hs_ => hs_.2) (fun hn_ => (Kd.freshB (g := gb366) (o := .cells #[.int .i64 x367000_1, .int .i64 x367001_1, .int .i64 x367002_1, .slice Ao62 x367003_1.length co62, .slice Ao63 x367004_1.length co63] 27 (0, 0)) (by (repeat refine zb ?_); exact BK366.out) k_ hn_))⟩)) (below_size (zB HB.out))); have HO390 := Aside0.mk (Kd.V_lower (Kd.V_mono (ok' := fun k_ => ((P1_3_ k_ ∨ P1_4_ k_) ∨ w.heap.size ≤ k_) ∧ k_ ≠ gb366) ho1 (fun k_ hk_ => ⟨Or.elim hk_ (fun hs_ => hs_.1) (fun hn_ => (.inr (Nat.le_trans (below_size (zB HB.out)) hn_))), Or.elim hk_ (fun hs_ => hs_.2) (fun hn_ => (Kd.freshB (g := gb366) (o := .cells #[.int .i64 x367000_1, .int .i64 x367001_1, .int .i64 x367002_1, .slice Ao62 x367003_1.length co62, .slice Ao63 x367004_1.length co63] 27 (0, 0)) (by (repeat refine zb ?_); exact BK366.out) k_ hn_))⟩)) (below_size (zB HB.out))); replace BK366 := zbb BK366 hb; replace HB := zbs HB hb; clear hb; (try clear ho0); (try clear ho1)) | ((with_reducible refine gate_dst (N := 11) rfl ?_); refine zbo (N := 11) (cs := #[.int .i64 0, .int .i64 0, .int .i64 0, .slice none 0 0, .slice none 0 0]) (t := 27) ?_; intro gb392 hg w65 hbox hb; replace HO_367003 := zve HO_367003 hg hb; replace HO_367004 := zve HO_367004 hg hb; replace HO387 := zve HO387 hg hb; replace HO390 := zve HO390 hg hb; have BK392 := Aside0.mk (hbox); have GW392 := zgw hg HB; have GE392 := zgw hg HB; replace HB := zbs HB hb; have NB366_392 := znl hg BK366; have NB392_366 := zng hg BK366; replace BK366 := zbb BK366 hb; clear hb hbox hg; have hnb66 := NB392_366.out; have hnc66 := NB366_392.out; have hz67 := zc5 BK392.out; obtain ⟨Ao68, co68, eo68⟩ := Kd.V_slice HO387.out; subst eo68; obtain ⟨Ao69, co69, eo69⟩ := Kd.V_slice HO390.out; subst eo69))
     go_ret
     exact ⟨zX, zB HB.out⟩
    rw [if_neg c7] at H
    exact absurd H (by simp)
   rw [if_neg c6] at H
   exact absurd H (by simp)
  rw [if_neg c5] at H
  have c5b0 := decide_eq_false c5
  clear c5
  obtain rfl := Option.some.inj H
  go_wp2
  go_ret
  exact ⟨zX, zB HB.out⟩
end Go.Proofs.YtpdohioobbfncaaGreatDoor.PFnJpWildStop