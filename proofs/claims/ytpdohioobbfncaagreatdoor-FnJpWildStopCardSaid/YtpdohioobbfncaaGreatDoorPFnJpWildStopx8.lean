/- what the Go functions that the law FnJpWildStop reaches compute, each as a plain function, with the proof that the Go code computes just that; no condition beside those that each theorem states. -/
import Derived.Test.YtpdohioobbfncaaGreatDoorPFnJpWildStopx0
import Derived.Test.YtpdohioobbfncaaGreatDoorPFnJpWildStopx7
namespace Go.Proofs.YtpdohioobbfncaaGreatDoor.PFnJpWildStop
open Go.RowKit Go.Proofs.YtpdohioobbfncaaGreatDoorW.PrintWords Go.Proofs.YtpdohioobbfncaaGreatDoorW.PrintLast Go.Proofs.YtpdohioobbfncaaGreatDoorW.PrintMore
set_option linter.unusedVariables false
set_option linter.unusedSimpArgs false
def NN_.l0 : Nat → ByteArray → ByteArray → Int → Int → Int → Int → List (S64) → List (S27) → Option (Int)
  | 0, _, _, _, _, _, _, _, _ => none
  | k + 1, x0, x2, x7, x353000, x353001, x353002, x353003, x353004 => if x7 < (x353003.length : Int) then (if 0 ≤ x7 then (if 0 ≤ ((rd_T64 x353003 x7).f0) then (if ((rd_T64 x353003 x7).f0) ≤ ((rd_T64 x353003 x7).f1) then (if ((rd_T64 x353003 x7).f1) ≤ (x0.size : Int) then ((Unq_.f k (x0.extract (((rd_T64 x353003 x7).f0) : Int).toNat (((rd_T64 x353003 x7).f1) : Int).toNat)).bind fun t355 => (if t355.toList = x2.toList then (some x7) else (NN_.l0 k x0 x2 (wrap64 (x7 + 1)) x353000 x353001 x353002 x353003 x353004))) else (none)) else (none)) else (none)) else (none)) else (some (-1))
def NN_.f (k : Nat) (a0 : ByteArray) (a1_0 : Int) (a1_1 : Int) (a1_2 : Int) (l1_3 : List (S64)) (l1_4 : List (S27)) (a2 : ByteArray) : Option (Int) := NN_.l0 k a0 a2 0 a1_0 a1_1 a1_2 l1_3 l1_4
def NN_.T4 : Bool × List (List Nat × List Nat) := (true, [([], []), ([], []), ([1], [1]), ([], []), ([2, 3], [2, 3]), ([4], [4]), ([5], [5]), ([], []), ([7], [7]), ([], []), ([8, 9], [8, 9]), ([10], [10]), ([11], [11]), ([0, 6, 12], [0, 6, 12]), ([13], [13]), ([], []), ([14, 15], [14, 15])])
def NN_.B4 : List Nat := [0, 0, 2, 0, 14, 30, 62, 0, 128, 0, 896, 1920, 3968, 8191, 16383, 0, 65535]
theorem NN_.tab4 : rtab .any (opsOf Tryz.f29 4) = NN_.T4 := by kernel_rfl
theorem NN_.bits4 : waitsOk NN_.T4.2 NN_.B4 = true := by kernel_rfl
set_option maxHeartbeats 8000000 in
set_option maxRecDepth 100000 in
theorem NN_.calls (k : Nat) (a0 : ByteArray) (a1_0 : Int) (a1_1 : Int) (a1_2 : Int) (A1_3 : Option Addr) (c1_3 : Nat) (l1_3 : List (S64)) (A1_4 : Option Addr) (c1_4 : Nat) (l1_4 : List (S27)) (a2 : ByteArray) (r : Int) (w : World) (hr1_3 : Kd.C k64 w A1_3 l1_3.length l1_3) (hc1_3 : l1_3.length ≤ c1_3) (hr1_4 : Kd.C k27 w A1_4 l1_4.length l1_4) (hc1_4 : l1_4.length ≤ c1_4) (h : NN_.f k a0 a1_0 a1_1 a1_2 l1_3 l1_4 a2 = some r) :
    Calls Tryz.prog 29 #[.string a0, .agg #[.int .i64 a1_0, .int .i64 a1_1, .int .i64 a1_2, .slice A1_3 l1_3.length c1_3, .slice A1_4 l1_4.length c1_4], .string a2] w fun e w' => e = .returned (.int .i64 r) ∧ Below w.heap.size w w' := by
 have hu27 := Tryz.underlying27
 have HR1_3 := Aside0.mk hr1_3
 have HC1_3 := Aside0.mk hc1_3
 clear hr1_3 hc1_3
 have HR1_4 := Aside0.mk hr1_4
 have HC1_4 := Aside0.mk hc1_4
 clear hr1_4 hc1_4
 have HB := Aside0.mk (Below.refl w.heap.size w)
 have H : (NN_.l0 k a0 a2 0 a1_0 a1_1 a1_2 l1_3 l1_4) = some r := h
 clear h
 have H' := Aside0.mk H
 clear H
 go_enter Tryz.func29, Tryz.ntmps29
 go_wp2_with (first | ((with_reducible refine gate_dst (N := 4) rfl ?_); refine zbo (N := 4) (cs := #[.int .i64 a1_0, .int .i64 a1_1, .int .i64 a1_2, .slice A1_3 l1_3.length c1_3, .slice A1_4 l1_4.length c1_4]) (t := 27) ?_; intro gb352 hg w4 hbox hb; have BK352 := Aside0.mk (hbox); have GW352 := zgw hg HB; have GE352 := zgw hg HB; replace HB := zbs HB hb; clear hb hbox hg))
 try simp only [Act.put, List.setIfInBounds_toArray, List.set_cons_succ, List.set_cons_zero]
 go_loopg [7] k (fun kq v7 w' => ∃ (x7_1 : Int), v7 = .int .i64 x7_1 ∧ Aside0 (NN_.l0 kq a0 a2 x7_1 a1_0 a1_1 a1_2 l1_3 l1_4 = some r) ∧ Aside0 (kq ≤ k) ∧ Aside0 (w'.heap[gb352]? = some (.cells #[.int .i64 a1_0, .int .i64 a1_1, .int .i64 a1_2, (.slice A1_3 l1_3.length c1_3), (.slice A1_4 l1_4.length c1_4)] 27 (0, 0))) ∧ Aside0 (Below w.heap.size w w'))
 case atStart => exact ⟨(0), zE, H', ⟨Nat.le_refl _⟩, ⟨zbx BK352⟩, ⟨zB HB.out⟩⟩
 case round =>
  clear H'
  obtain ⟨x7_1, rfl, HA, HK1, BK352, HB⟩ := hrel
  rcases gk with _ | k1
  · exact absurd HA.out (by simp [NN_.l0])
  have H := HA.out
  clear HA
  simp only [NN_.l0] at H
  by_cases c5 : x7_1 < (l1_3.length : Int)
  ·
   rw [if_pos c5] at H
   have c5b0 := decide_eq_true c5
   clear c5
   by_cases c6 : 0 ≤ x7_1
   ·
    rw [if_pos c6] at H
    have c6b0 := decide_eq_true c6
    clear c6
    by_cases c7 : 0 ≤ ((rd_T64 l1_3 x7_1).f0)
    ·
     rw [if_pos c7] at H
     have c7b0 := eq_true c7
     have c7b1 := decide_eq_true c7
     clear c7
     by_cases c8 : ((rd_T64 l1_3 x7_1).f0) ≤ ((rd_T64 l1_3 x7_1).f1)
     ·
      rw [if_pos c8] at H
      have c8b0 := eq_true c8
      have c8b1 := decide_eq_true c8
      clear c8
      by_cases c9 : ((rd_T64 l1_3 x7_1).f1) ≤ (a0.size : Int)
      ·
       rw [if_pos c9] at H
       have c9b0 := eq_true c9
       have c9b1 := decide_eq_true c9
       clear c9
       replace H := Option.bind_eq_some_iff.mp H
       obtain ⟨t355, A100, H⟩ := H
       try dsimp only at H
       have A10 := Aside0.mk A100
       clear A100
       by_cases c11 : t355.toList = a2.toList
       ·
        rw [if_pos c11] at H
        have c11b0 := beq_iff_eq.mpr c11
        have c11b1 := bne_eq_false_iff_eq.mpr c11
        clear c11
        obtain rfl := Option.some.inj H
        have hz12 := zc5 BK352.out
        try go_wp2
        have n0_ := Aside0.mk (blk_drew BK352.out)
        have n1_ := Aside0.mk (below_drew1 HB.out)
        clear BK352
        clear HB
        have BK352 := n0_
        have HB := n1_
        clear n0_ n1_
        have p353 : 0 ≤ (x7_1 : Int) := dT
        have q353 : x7_1 < (l1_3.length : Int) := dT
        obtain ⟨ad353, e353, hx353_0, hx353_1⟩ := at_T64 HR1_3.out x7_1 p353 q353
        have hw353_1 := hx353_1
        have hw353_0 := hx353_0
        cases e353
        replace hx353_0 := zH HB.out hx353_0
        replace hx353_1 := zH HB.out hx353_1
        replace p353 := eq_true p353
        replace q353 := eq_true q353
        have p354 : 0 ≤ (x7_1 : Int) := dT
        have q354 : x7_1 < (l1_3.length : Int) := dT
        obtain ⟨ad354, e354, hx354_0, hx354_1⟩ := at_T64 HR1_3.out x7_1 p354 q354
        have hw354_1 := hx354_1
        have hw354_0 := hx354_0
        obtain rfl : ad353 = ad354 := (by injection e354)
        replace hx354_0 := zH HB.out hx354_0
        replace hx354_1 := zH HB.out hx354_1
        replace p354 := eq_true p354
        replace q354 := eq_true q354
        refine start_ (n := 17) (S := fun w' => w'.cell? ⟨gb352, 0, none⟩ = some (.int .i64 a1_0) ∧ w'.cell? ⟨gb352, 1, none⟩ = some (.int .i64 a1_1) ∧ w'.cell? ⟨gb352, 2, none⟩ = some (.int .i64 a1_2) ∧ w'.cell? ⟨gb352, 3, none⟩ = some (.slice (some ad353) l1_3.length c1_3) ∧ w'.cell? ⟨gb352, 4, none⟩ = some (.slice A1_4 l1_4.length c1_4) ∧ w'.cell? (ad353.add ((x7_1).toNat * 2)) = some (.int .i64 ((rd_T64 l1_3 x7_1).f0)) ∧ w'.cell? ⟨(ad353.add ((x7_1).toNat * 2)).block, (ad353.add ((x7_1).toNat * 2)).off + 1, none⟩ = some (.int .i64 ((rd_T64 l1_3 x7_1).f1)) ∧ w'.cell? (ad353.add ((x7_1).toNat * 2)) = some (.int .i64 ((rd_T64 l1_3 x7_1).f0)) ∧ w'.cell? ⟨(ad353.add ((x7_1).toNat * 2)).block, (ad353.add ((x7_1).toNat * 2)).off + 1, none⟩ = some (.int .i64 ((rd_T64 l1_3 x7_1).f1))) (ds := []) #[false, false, false, false, false, false, false, false, false, false, false, false, false, false, false, false, false] (by kernel_rfl) rfl rfl ⟨(blk_cell BK352.out 0).trans rfl, (blk_cell BK352.out 1).trans rfl, (blk_cell BK352.out 2).trans rfl, (blk_cell BK352.out 3).trans rfl, (blk_cell BK352.out 4).trans rfl, (zH HB.out hw353_0), (zH HB.out hw353_1), (zH HB.out hw354_0), (zH HB.out hw354_1)⟩ (fun hHeld => ?_); refine with_tabW NN_.tab4 NN_.bits4 (fun HT_ HW_ => ?_)
        generalize wr.drew = w13 at BK352 HB hx353_0 hx353_1 hx354_0 hx354_1 hHeld ⊢
        refine pure_ (i := 0) (N := some 15) (v := ?_) (a' := ?_) #[true, false, false, false, false, false, false, false, false, false, false, false, false, false, false, false, false] rfl rfl (any_of HT_.out (by kernel_rfl)) (fun _ _ _ h => h) (Or.inl ⟨by rfl, ?_⟩) ?_ ?_
        rotate_left
        ·
         intro w'
         go_simp
         with_reducible rfl
        rotate_left
        ·
         simp only [Act.put, List.setIfInBounds_toArray, List.set_cons_zero, List.set_cons_succ, i64_w, i32_w]
         rfl
        refine pure_ (i := 1) (N := some 16) (v := ?_) (a' := ?_) #[true, true, false, false, false, false, false, false, false, false, false, false, false, false, false, false, false] rfl rfl (any_of HT_.out (by kernel_rfl)) (fun _ _ _ h => h) (Or.inl ⟨by rfl, ?_⟩) ?_ ?_
        rotate_left
        ·
         intro w'
         go_simp
         with_reducible rfl
        rotate_left
        ·
         simp only [Act.put, List.setIfInBounds_toArray, List.set_cons_zero, List.set_cons_succ, i64_w, i32_w]
         rfl
        refine pure_ (i := 3) (N := some 18) (v := ?_) (a' := ?_) #[true, true, false, true, false, false, false, false, false, false, false, false, false, false, false, false, false] rfl rfl (any_of HT_.out (by kernel_rfl)) (fun _ _ _ h => h) (Or.inl ⟨by rfl, ?_⟩) ?_ ?_
        rotate_left
        ·
         intro w'
         go_simp
         with_reducible rfl
        rotate_left
        ·
         simp only [Act.put, List.setIfInBounds_toArray, List.set_cons_zero, List.set_cons_succ, i64_w, i32_w]
         rfl
        refine pure_ (i := 7) (N := some 22) (v := ?_) (a' := ?_) #[true, true, false, true, false, false, false, true, false, false, false, false, false, false, false, false, false] rfl rfl (any_of HT_.out (by kernel_rfl)) (fun _ _ _ h => h) (Or.inl ⟨by rfl, ?_⟩) ?_ ?_
        rotate_left
        ·
         intro w'
         go_simp
         with_reducible rfl
        rotate_left
        ·
         simp only [Act.put, List.setIfInBounds_toArray, List.set_cons_zero, List.set_cons_succ, i64_w, i32_w]
         rfl
        refine pure_ (i := 9) (N := some 24) (v := ?_) (a' := ?_) #[true, true, false, true, false, false, false, true, false, true, false, false, false, false, false, false, false] rfl rfl (any_of HT_.out (by kernel_rfl)) (fun _ _ _ h => h) (Or.inl ⟨by rfl, ?_⟩) ?_ ?_
        rotate_left
        ·
         intro w'
         go_simp
         with_reducible rfl
        rotate_left
        ·
         simp only [Act.put, List.setIfInBounds_toArray, List.set_cons_zero, List.set_cons_succ, i64_w, i32_w]
         rfl
        refine pure_ (i := 15) (N := some 30) (v := ?_) (a' := ?_) #[true, true, false, true, false, false, false, true, false, true, false, false, false, false, false, true, false] rfl rfl (any_of HT_.out (by kernel_rfl)) (fun _ _ _ h => h) (Or.inl ⟨by rfl, ?_⟩) ?_ ?_
        rotate_left
        ·
         intro w'
         go_simp
         with_reducible rfl
        rotate_left
        ·
         simp only [Act.put, List.setIfInBounds_toArray, List.set_cons_zero, List.set_cons_succ, i64_w, i32_w]
         rfl
        refine take_ (i := 2) (N := some 17) (v := ?_) (a' := ?_) #[true, true, true, true, false, false, false, true, false, true, false, false, false, false, false, true, false] rfl rfl (take_ofW HT_.out HW_.out (by kernel_rfl)) (fun _ _ _ h => h) (Or.inl ⟨by rfl, ?_⟩) hHeld ?_ ?_
        rotate_left
        ·
         rintro w' ⟨s0, s1, s2, s3, s4, s5, s6, s7, s8⟩
         go_simp
         with_reducible rfl
        rotate_left
        ·
         simp only [Act.put, List.setIfInBounds_toArray, List.set_cons_zero, List.set_cons_succ, i64_w, i32_w]
         rfl
        refine pure_ (i := 4) (N := some 19) (v := ?_) (a' := ?_) #[true, true, true, true, true, false, false, true, false, true, false, false, false, false, false, true, false] rfl rfl (any_of HT_.out (by kernel_rfl)) (fun _ _ _ h => h) (Or.inl ⟨by rfl, ?_⟩) ?_ ?_
        rotate_left
        ·
         intro w'
         go_simp
         with_reducible rfl
        rotate_left
        ·
         simp only [Act.put, List.setIfInBounds_toArray, List.set_cons_zero, List.set_cons_succ, i64_w, i32_w]
         rfl
        refine pure_ (i := 5) (N := some 20) (v := ?_) (a' := ?_) #[true, true, true, true, true, true, false, true, false, true, false, false, false, false, false, true, false] rfl rfl (any_of HT_.out (by kernel_rfl)) (fun _ _ _ h => h) (Or.inl ⟨by rfl, ?_⟩) ?_ ?_
        rotate_left
        ·
         intro w'
         go_simp
         with_reducible rfl
        rotate_left
        ·
         simp only [Act.put, List.setIfInBounds_toArray, List.set_cons_zero, List.set_cons_succ, i64_w, i32_w]
         rfl
        refine take_ (i := 6) (N := some 21) (v := ?_) (a' := ?_) #[true, true, true, true, true, true, true, true, false, true, false, false, false, false, false, true, false] rfl rfl (take_ofW HT_.out HW_.out (by kernel_rfl)) (fun _ _ _ h => h) (Or.inl ⟨by rfl, ?_⟩) hHeld ?_ ?_
        rotate_left
        ·
         rintro w' ⟨s0, s1, s2, s3, s4, s5, s6, s7, s8⟩
         go_simp
         with_reducible rfl
        rotate_left
        ·
         simp only [Act.put, List.setIfInBounds_toArray, List.set_cons_zero, List.set_cons_succ, i64_w, i32_w]
         rfl
        refine take_ (i := 8) (N := some 23) (v := ?_) (a' := ?_) #[true, true, true, true, true, true, true, true, true, true, false, false, false, false, false, true, false] rfl rfl (take_ofW HT_.out HW_.out (by kernel_rfl)) (fun _ _ _ h => h) (Or.inl ⟨by rfl, ?_⟩) hHeld ?_ ?_
        rotate_left
        ·
         rintro w' ⟨s0, s1, s2, s3, s4, s5, s6, s7, s8⟩
         go_simp
         with_reducible rfl
        rotate_left
        ·
         simp only [Act.put, List.setIfInBounds_toArray, List.set_cons_zero, List.set_cons_succ, i64_w, i32_w]
         rfl
        refine pure_ (i := 10) (N := some 25) (v := ?_) (a' := ?_) #[true, true, true, true, true, true, true, true, true, true, true, false, false, false, false, true, false] rfl rfl (any_of HT_.out (by kernel_rfl)) (fun _ _ _ h => h) (Or.inl ⟨by rfl, ?_⟩) ?_ ?_
        rotate_left
        ·
         intro w'
         go_simp
         with_reducible rfl
        rotate_left
        ·
         simp only [Act.put, List.setIfInBounds_toArray, List.set_cons_zero, List.set_cons_succ, i64_w, i32_w]
         rfl
        refine pure_ (i := 11) (N := some 26) (v := ?_) (a' := ?_) #[true, true, true, true, true, true, true, true, true, true, true, true, false, false, false, true, false] rfl rfl (any_of HT_.out (by kernel_rfl)) (fun _ _ _ h => h) (Or.inl ⟨by rfl, ?_⟩) ?_ ?_
        rotate_left
        ·
         intro w'
         go_simp
         with_reducible rfl
        rotate_left
        ·
         simp only [Act.put, List.setIfInBounds_toArray, List.set_cons_zero, List.set_cons_succ, i64_w, i32_w]
         rfl
        refine take_ (i := 12) (N := some 27) (v := ?_) (a' := ?_) #[true, true, true, true, true, true, true, true, true, true, true, true, true, false, false, true, false] rfl rfl (take_ofW HT_.out HW_.out (by kernel_rfl)) (fun _ _ _ h => h) (Or.inl ⟨by rfl, ?_⟩) hHeld ?_ ?_
        rotate_left
        ·
         rintro w' ⟨s0, s1, s2, s3, s4, s5, s6, s7, s8⟩
         go_simp
         with_reducible rfl
        rotate_left
        ·
         simp only [Act.put, List.setIfInBounds_toArray, List.set_cons_zero, List.set_cons_succ, i64_w, i32_w]
         rfl
        refine pure_ (i := 13) (N := some 28) (v := ?_) (a' := ?_) #[true, true, true, true, true, true, true, true, true, true, true, true, true, true, false, true, false] rfl rfl (any_of HT_.out (by kernel_rfl)) (fun _ _ _ h => h) (Or.inl ⟨by rfl, ?_⟩) ?_ ?_
        rotate_left
        ·
         intro w'
         go_simp
         with_reducible rfl
        rotate_left
        ·
         simp only [Act.put, List.setIfInBounds_toArray, List.set_cons_zero, List.set_cons_succ, i64_w, i32_w]
         rfl
        refine one_ (i := 14) (N := some 29) #[true, true, true, true, true, true, true, true, true, true, true, true, true, true, true, true, false] rfl rfl (one_of HT_.out (by kernel_rfl)) (by decide) (fun K hK => ?_)
        refine goes_ Tryz.func28 (by kernel_rfl) rfl #[.string (a0.extract (((rd_T64 l1_3 x7_1).f0) : Int).toNat (((rd_T64 l1_3 x7_1).f1) : Int).toNat)] (by rfl) rfl rfl zM ?_
        with_reducible refine (Unq_.calls k1 (a0.extract (((rd_T64 l1_3 x7_1).f0) : Int).toNat (((rd_T64 l1_3 x7_1).f1) : Int).toNat) t355 _ A10.out).mono ?_
        rintro e w14 ⟨rfl, hb⟩
        refine ⟨_, rfl, ?_⟩
        have n0_ := zbb BK352 hb
        have n1_ := zbs HB hb
        clear BK352
        clear HB
        have BK352 := n0_
        have HB := n1_
        clear n0_ n1_
        (try clear hb)
        (try clear hb2)
        (try clear hk)
        (try clear hi)
        refine hK.out _ _ ⟨(blk_cell BK352.out 0).trans rfl, (blk_cell BK352.out 1).trans rfl, (blk_cell BK352.out 2).trans rfl, (blk_cell BK352.out 3).trans rfl, (blk_cell BK352.out 4).trans rfl, (zH HB.out hw353_0), (zH HB.out hw353_1), (zH HB.out hw354_0), (zH HB.out hw354_1)⟩ (fun hHeld => ?_)
        clear hK K
        refine norm_ (a' := ?_) ?_ ?_
        rotate_left
        ·
         show Act.put _ (some 29) _ = _
         simp only [Act.put, List.setIfInBounds_toArray, List.set_cons_zero, List.set_cons_succ, i64_w, i32_w]
         rfl
        refine pure_ (i := 16) (N := some 31) (v := ?_) (a' := ?_) #[true, true, true, true, true, true, true, true, true, true, true, true, true, true, true, true, true] rfl rfl (any_of HT_.out (by kernel_rfl)) (fun _ _ _ h => h) (Or.inl ⟨by rfl, ?_⟩) ?_ ?_
        rotate_left
        ·
         intro w'
         go_simp
         with_reducible rfl
        rotate_left
        ·
         simp only [Act.put, List.setIfInBounds_toArray, List.set_cons_zero, List.set_cons_succ, i64_w, i32_w]
         rfl
        refine done_ (done_of HT_.out (by kernel_rfl)) ?_
        try go_wp2
        go_ret
        exact ⟨zX, zB HB.out⟩
       rw [if_neg c11] at H
       have c11b0 := beq_eq_false_iff_ne.mpr c11
       have c11b1 := bne_iff_ne.mpr c11
       have H' := Aside0.mk H
       clear H
       have hz15 := zc5 BK352.out
       try go_wp2
       have n0_ := Aside0.mk (blk_drew BK352.out)
       have n1_ := Aside0.mk (below_drew1 HB.out)
       clear BK352
       clear HB
       have BK352 := n0_
       have HB := n1_
       clear n0_ n1_
       have p353 : 0 ≤ (x7_1 : Int) := dT
       have q353 : x7_1 < (l1_3.length : Int) := dT
       obtain ⟨ad353, e353, hx353_0, hx353_1⟩ := at_T64 HR1_3.out x7_1 p353 q353
       have hw353_1 := hx353_1
       have hw353_0 := hx353_0
       cases e353
       replace hx353_0 := zH HB.out hx353_0
       replace hx353_1 := zH HB.out hx353_1
       replace p353 := eq_true p353
       replace q353 := eq_true q353
       have p354 : 0 ≤ (x7_1 : Int) := dT
       have q354 : x7_1 < (l1_3.length : Int) := dT
       obtain ⟨ad354, e354, hx354_0, hx354_1⟩ := at_T64 HR1_3.out x7_1 p354 q354
       have hw354_1 := hx354_1
       have hw354_0 := hx354_0
       obtain rfl : ad353 = ad354 := (by injection e354)
       replace hx354_0 := zH HB.out hx354_0
       replace hx354_1 := zH HB.out hx354_1
       replace p354 := eq_true p354
       replace q354 := eq_true q354
       refine start_ (n := 17) (S := fun w' => w'.cell? ⟨gb352, 0, none⟩ = some (.int .i64 a1_0) ∧ w'.cell? ⟨gb352, 1, none⟩ = some (.int .i64 a1_1) ∧ w'.cell? ⟨gb352, 2, none⟩ = some (.int .i64 a1_2) ∧ w'.cell? ⟨gb352, 3, none⟩ = some (.slice (some ad353) l1_3.length c1_3) ∧ w'.cell? ⟨gb352, 4, none⟩ = some (.slice A1_4 l1_4.length c1_4) ∧ w'.cell? (ad353.add ((x7_1).toNat * 2)) = some (.int .i64 ((rd_T64 l1_3 x7_1).f0)) ∧ w'.cell? ⟨(ad353.add ((x7_1).toNat * 2)).block, (ad353.add ((x7_1).toNat * 2)).off + 1, none⟩ = some (.int .i64 ((rd_T64 l1_3 x7_1).f1)) ∧ w'.cell? (ad353.add ((x7_1).toNat * 2)) = some (.int .i64 ((rd_T64 l1_3 x7_1).f0)) ∧ w'.cell? ⟨(ad353.add ((x7_1).toNat * 2)).block, (ad353.add ((x7_1).toNat * 2)).off + 1, none⟩ = some (.int .i64 ((rd_T64 l1_3 x7_1).f1))) (ds := []) #[false, false, false, false, false, false, false, false, false, false, false, false, false, false, false, false, false] (by kernel_rfl) rfl rfl ⟨(blk_cell BK352.out 0).trans rfl, (blk_cell BK352.out 1).trans rfl, (blk_cell BK352.out 2).trans rfl, (blk_cell BK352.out 3).trans rfl, (blk_cell BK352.out 4).trans rfl, (zH HB.out hw353_0), (zH HB.out hw353_1), (zH HB.out hw354_0), (zH HB.out hw354_1)⟩ (fun hHeld => ?_); refine with_tabW NN_.tab4 NN_.bits4 (fun HT_ HW_ => ?_)
       generalize wr.drew = w16 at BK352 HB hx353_0 hx353_1 hx354_0 hx354_1 hHeld ⊢
       refine pure_ (i := 0) (N := some 15) (v := ?_) (a' := ?_) #[true, false, false, false, false, false, false, false, false, false, false, false, false, false, false, false, false] rfl rfl (any_of HT_.out (by kernel_rfl)) (fun _ _ _ h => h) (Or.inl ⟨by rfl, ?_⟩) ?_ ?_
       rotate_left
       ·
        intro w'
        go_simp
        with_reducible rfl
       rotate_left
       ·
        simp only [Act.put, List.setIfInBounds_toArray, List.set_cons_zero, List.set_cons_succ, i64_w, i32_w]
        rfl
       refine pure_ (i := 1) (N := some 16) (v := ?_) (a' := ?_) #[true, true, false, false, false, false, false, false, false, false, false, false, false, false, false, false, false] rfl rfl (any_of HT_.out (by kernel_rfl)) (fun _ _ _ h => h) (Or.inl ⟨by rfl, ?_⟩) ?_ ?_
       rotate_left
       ·
        intro w'
        go_simp
        with_reducible rfl
       rotate_left
       ·
        simp only [Act.put, List.setIfInBounds_toArray, List.set_cons_zero, List.set_cons_succ, i64_w, i32_w]
        rfl
       refine pure_ (i := 3) (N := some 18) (v := ?_) (a' := ?_) #[true, true, false, true, false, false, false, false, false, false, false, false, false, false, false, false, false] rfl rfl (any_of HT_.out (by kernel_rfl)) (fun _ _ _ h => h) (Or.inl ⟨by rfl, ?_⟩) ?_ ?_
       rotate_left
       ·
        intro w'
        go_simp
        with_reducible rfl
       rotate_left
       ·
        simp only [Act.put, List.setIfInBounds_toArray, List.set_cons_zero, List.set_cons_succ, i64_w, i32_w]
        rfl
       refine pure_ (i := 7) (N := some 22) (v := ?_) (a' := ?_) #[true, true, false, true, false, false, false, true, false, false, false, false, false, false, false, false, false] rfl rfl (any_of HT_.out (by kernel_rfl)) (fun _ _ _ h => h) (Or.inl ⟨by rfl, ?_⟩) ?_ ?_
       rotate_left
       ·
        intro w'
        go_simp
        with_reducible rfl
       rotate_left
       ·
        simp only [Act.put, List.setIfInBounds_toArray, List.set_cons_zero, List.set_cons_succ, i64_w, i32_w]
        rfl
       refine pure_ (i := 9) (N := some 24) (v := ?_) (a' := ?_) #[true, true, false, true, false, false, false, true, false, true, false, false, false, false, false, false, false] rfl rfl (any_of HT_.out (by kernel_rfl)) (fun _ _ _ h => h) (Or.inl ⟨by rfl, ?_⟩) ?_ ?_
       rotate_left
       ·
        intro w'
        go_simp
        with_reducible rfl
       rotate_left
       ·
        simp only [Act.put, List.setIfInBounds_toArray, List.set_cons_zero, List.set_cons_succ, i64_w, i32_w]
        rfl
       refine pure_ (i := 15) (N := some 30) (v := ?_) (a' := ?_) #[true, true, false, true, false, false, false, true, false, true, false, false, false, false, false, true, false] rfl rfl (any_of HT_.out (by kernel_rfl)) (fun _ _ _ h => h) (Or.inl ⟨by rfl, ?_⟩) ?_ ?_
       rotate_left
       ·
        intro w'
        go_simp
        with_reducible rfl
       rotate_left
       ·
        simp only [Act.put, List.setIfInBounds_toArray, List.set_cons_zero, List.set_cons_succ, i64_w, i32_w]
        rfl
       refine take_ (i := 2) (N := some 17) (v := ?_) (a' := ?_) #[true, true, true, true, false, false, false, true, false, true, false, false, false, false, false, true, false] rfl rfl (take_ofW HT_.out HW_.out (by kernel_rfl)) (fun _ _ _ h => h) (Or.inl ⟨by rfl, ?_⟩) hHeld ?_ ?_
       rotate_left
       ·
        rintro w' ⟨s0, s1, s2, s3, s4, s5, s6, s7, s8⟩
        go_simp
        with_reducible rfl
       rotate_left
       ·
        simp only [Act.put, List.setIfInBounds_toArray, List.set_cons_zero, List.set_cons_succ, i64_w, i32_w]
        rfl
       refine pure_ (i := 4) (N := some 19) (v := ?_) (a' := ?_) #[true, true, true, true, true, false, false, true, false, true, false, false, false, false, false, true, false] rfl rfl (any_of HT_.out (by kernel_rfl)) (fun _ _ _ h => h) (Or.inl ⟨by rfl, ?_⟩) ?_ ?_
       rotate_left
       ·
        intro w'
        go_simp
        with_reducible rfl
       rotate_left
       ·
        simp only [Act.put, List.setIfInBounds_toArray, List.set_cons_zero, List.set_cons_succ, i64_w, i32_w]
        rfl
       refine pure_ (i := 5) (N := some 20) (v := ?_) (a' := ?_) #[true, true, true, true, true, true, false, true, false, true, false, false, false, false, false, true, false] rfl rfl (any_of HT_.out (by kernel_rfl)) (fun _ _ _ h => h) (Or.inl ⟨by rfl, ?_⟩) ?_ ?_
       rotate_left
       ·
        intro w'
        go_simp
        with_reducible rfl
       rotate_left
       ·
        simp only [Act.put, List.setIfInBounds_toArray, List.set_cons_zero, List.set_cons_succ, i64_w, i32_w]
        rfl
       refine take_ (i := 6) (N := some 21) (v := ?_) (a' := ?_) #[true, true, true, true, true, true, true, true, false, true, false, false, false, false, false, true, false] rfl rfl (take_ofW HT_.out HW_.out (by kernel_rfl)) (fun _ _ _ h => h) (Or.inl ⟨by rfl, ?_⟩) hHeld ?_ ?_
       rotate_left
       ·
        rintro w' ⟨s0, s1, s2, s3, s4, s5, s6, s7, s8⟩
        go_simp
        with_reducible rfl
       rotate_left
       ·
        simp only [Act.put, List.setIfInBounds_toArray, List.set_cons_zero, List.set_cons_succ, i64_w, i32_w]
        rfl
       refine take_ (i := 8) (N := some 23) (v := ?_) (a' := ?_) #[true, true, true, true, true, true, true, true, true, true, false, false, false, false, false, true, false] rfl rfl (take_ofW HT_.out HW_.out (by kernel_rfl)) (fun _ _ _ h => h) (Or.inl ⟨by rfl, ?_⟩) hHeld ?_ ?_
       rotate_left
       ·
        rintro w' ⟨s0, s1, s2, s3, s4, s5, s6, s7, s8⟩
        go_simp
        with_reducible rfl
       rotate_left
       ·
        simp only [Act.put, List.setIfInBounds_toArray, List.set_cons_zero, List.set_cons_succ, i64_w, i32_w]
        rfl
       refine pure_ (i := 10) (N := some 25) (v := ?_) (a' := ?_) #[true, true, true, true, true, true, true, true, true, true, true, false, false, false, false, true, false] rfl rfl (any_of HT_.out (by kernel_rfl)) (fun _ _ _ h => h) (Or.inl ⟨by rfl, ?_⟩) ?_ ?_
       rotate_left
       ·
        intro w'
        go_simp
        with_reducible rfl
       rotate_left
       ·
        simp only [Act.put, List.setIfInBounds_toArray, List.set_cons_zero, List.set_cons_succ, i64_w, i32_w]
        rfl
       refine pure_ (i := 11) (N := some 26) (v := ?_) (a' := ?_) #[true, true, true, true, true, true, true, true, true, true, true, true, false, false, false, true, false] rfl rfl (any_of HT_.out (by kernel_rfl)) (fun _ _ _ h => h) (Or.inl ⟨by rfl, ?_⟩) ?_ ?_
       rotate_left
       ·
        intro w'
        go_simp
        with_reducible rfl
       rotate_left
       ·
        simp only [Act.put, List.setIfInBounds_toArray, List.set_cons_zero, List.set_cons_succ, i64_w, i32_w]
        rfl
       refine take_ (i := 12) (N := some 27) (v := ?_) (a' := ?_) #[true, true, true, true, true, true, true, true, true, true, true, true, true, false, false, true, false] rfl rfl (take_ofW HT_.out HW_.out (by kernel_rfl)) (fun _ _ _ h => h) (Or.inl ⟨by rfl, ?_⟩) hHeld ?_ ?_
       rotate_left
       ·
        rintro w' ⟨s0, s1, s2, s3, s4, s5, s6, s7, s8⟩
        go_simp
        with_reducible rfl
       rotate_left
       ·
        simp only [Act.put, List.setIfInBounds_toArray, List.set_cons_zero, List.set_cons_succ, i64_w, i32_w]
        rfl
       refine pure_ (i := 13) (N := some 28) (v := ?_) (a' := ?_) #[true, true, true, true, true, true, true, true, true, true, true, true, true, true, false, true, false] rfl rfl (any_of HT_.out (by kernel_rfl)) (fun _ _ _ h => h) (Or.inl ⟨by rfl, ?_⟩) ?_ ?_
       rotate_left
       ·
        intro w'
        go_simp
        with_reducible rfl
       rotate_left
       ·
        simp only [Act.put, List.setIfInBounds_toArray, List.set_cons_zero, List.set_cons_succ, i64_w, i32_w]
        rfl
       refine one_ (i := 14) (N := some 29) #[true, true, true, true, true, true, true, true, true, true, true, true, true, true, true, true, false] rfl rfl (one_of HT_.out (by kernel_rfl)) (by decide) (fun K hK => ?_)
       refine goes_ Tryz.func28 (by kernel_rfl) rfl #[.string (a0.extract (((rd_T64 l1_3 x7_1).f0) : Int).toNat (((rd_T64 l1_3 x7_1).f1) : Int).toNat)] (by rfl) rfl rfl zM ?_
       with_reducible refine (Unq_.calls k1 (a0.extract (((rd_T64 l1_3 x7_1).f0) : Int).toNat (((rd_T64 l1_3 x7_1).f1) : Int).toNat) t355 _ A10.out).mono ?_
       rintro e w17 ⟨rfl, hb⟩
       refine ⟨_, rfl, ?_⟩
       have n0_ := zbb BK352 hb
       have n1_ := zbs HB hb
       clear BK352
       clear HB
       have BK352 := n0_
       have HB := n1_
       clear n0_ n1_
       (try clear hb)
       (try clear hb2)
       (try clear hk)
       (try clear hi)
       refine hK.out _ _ ⟨(blk_cell BK352.out 0).trans rfl, (blk_cell BK352.out 1).trans rfl, (blk_cell BK352.out 2).trans rfl, (blk_cell BK352.out 3).trans rfl, (blk_cell BK352.out 4).trans rfl, (zH HB.out hw353_0), (zH HB.out hw353_1), (zH HB.out hw354_0), (zH HB.out hw354_1)⟩ (fun hHeld => ?_)
       clear hK K
       refine norm_ (a' := ?_) ?_ ?_
       rotate_left
       ·
        show Act.put _ (some 29) _ = _
        simp only [Act.put, List.setIfInBounds_toArray, List.set_cons_zero, List.set_cons_succ, i64_w, i32_w]
        rfl
       refine pure_ (i := 16) (N := some 31) (v := ?_) (a' := ?_) #[true, true, true, true, true, true, true, true, true, true, true, true, true, true, true, true, true] rfl rfl (any_of HT_.out (by kernel_rfl)) (fun _ _ _ h => h) (Or.inl ⟨by rfl, ?_⟩) ?_ ?_
       rotate_left
       ·
        intro w'
        go_simp
        with_reducible rfl
       rotate_left
       ·
        simp only [Act.put, List.setIfInBounds_toArray, List.set_cons_zero, List.set_cons_succ, i64_w, i32_w]
        rfl
       refine done_ (done_of HT_.out (by kernel_rfl)) ?_
       try go_wp2
       go_roundg k1
       case measure => have := HK1.out; omega
       case rel => exact ⟨(wrap64 (x7_1 + 1)), zE, H', ⟨by have := HK1.out; omega⟩, ⟨zbx BK352⟩, ⟨zB HB.out⟩⟩
      rw [if_neg c9] at H
      exact absurd H (by simp)
     rw [if_neg c8] at H
     exact absurd H (by simp)
    rw [if_neg c7] at H
    exact absurd H (by simp)
   rw [if_neg c6] at H
   exact absurd H (by simp)
  rw [if_neg c5] at H
  have c5b0 := decide_eq_false c5
  clear c5
  obtain rfl := Option.some.inj H
  have hz18 := zc5 BK352.out
  go_wp2
  go_ret
  exact ⟨zX, zB HB.out⟩
end Go.Proofs.YtpdohioobbfncaaGreatDoor.PFnJpWildStop