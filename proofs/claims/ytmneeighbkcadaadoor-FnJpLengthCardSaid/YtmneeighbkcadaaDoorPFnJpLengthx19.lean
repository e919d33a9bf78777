/- what the Go functions that the law FnJpLength reaches compute, each as a plain function, with the proof that the Go code computes just that; no condition beside those that each theorem states. -/
import Derived.Test.YtmneeighbkcadaaDoorPFnJpLengthx0
import Derived.Test.YtmneeighbkcadaaDoorPFnJpLengthx1
import Derived.Test.YtmneeighbkcadaaDoorPFnJpLengthx12
import Derived.Test.YtmneeighbkcadaaDoorPFnJpLengthx18
import Derived.Test.YtmneeighbkcadaaDoorGXFnJpLength
import Derived.Test.YtmneeighbkcadaaDoorWordsFnJpLength
namespace Go.Proofs.YtmneeighbkcadaaDoor.PFnJpLength
open Go.RowKit Go.Proofs.YtmneeighbkcadaaDoorW.PrintWords Go.Proofs.YtmneeighbkcadaaDoorW.PrintLast Go.Proofs.YtmneeighbkcadaaDoorW.PrintMore
set_option linter.unusedVariables false
set_option linter.unusedSimpArgs false
noncomputable def laws_FnJpLength.j0 : Nat → ByteArray → List ByteArray → Bool → Option (Bool)
  | 0, _, _, _ => none
  | k + 1, x0, x1, x16 => if x16 = true then (some true) else ((jF_.f k x0 x1).bind fun bt527 => (if bt527.2.2.2.2.2 = true then (if bt527.1 = 5 then (if 0 ≤ bt527.2.1 then (if bt527.2.1 < (x0.size : Int) then ((JJL_.f k x0 bt527.2.1 (bt x0 bt527.2.1)).bind fun bt538 => (if bt538.2 = true then (some (bt538.1 == (bt527.2.2.2.2.1.length : Int))) else (some false))) else (none)) else (none)) else (if bt527.1 = 6 then (if 0 ≤ bt527.2.1 then (if bt527.2.1 < (x0.size : Int) then ((JJL_.f k x0 bt527.2.1 (bt x0 bt527.2.1)).bind fun bt540 => (if bt540.2 = true then (some (bt540.1 == (bt527.2.2.2.2.1.length : Int))) else (some false))) else (none)) else (none)) else (some true))) else (some true)))
noncomputable def laws_FnJpLength.f (k : Nat) (a0 : ByteArray) (l1 : List ByteArray) : Option (Bool) := if (a0.size : Int) > 2147483647 then (laws_FnJpLength.j0 k a0 l1 true) else ((zF_.f k l1).bind fun t526 => (laws_FnJpLength.j0 k a0 l1 (!t526)))
noncomputable def laws_FnJpLength.T6 : Bool × List (List Nat × List Nat) := (true, [([], []), ([], []), ([1], [1]), ([], []), ([], []), ([4], [4]), ([3, 5], [3, 5]), ([0, 2, 6], [0, 2, 6]), ([7], [7]), ([8], [8]), ([8], [8]), ([9, 7, 0, 1, 2, 3, 4, 5, 6, 7, 8, 9], [9]), ([10, 11, 0, 1, 2, 3, 4, 5, 6, 7, 8, 9, 10, 11], [10])])
noncomputable def laws_FnJpLength.B6 : List Nat := [0, 0, 2, 0, 0, 16, 56, 127, 255, 511, 511, 1023, 4095]
theorem laws_FnJpLength.tab6 : rtab .any (opsOf Tryd.f3 6) = laws_FnJpLength.T6 := by kernel_rfl
theorem laws_FnJpLength.bits6 : waitsOk laws_FnJpLength.T6.2 laws_FnJpLength.B6 = true := by kernel_rfl
set_option maxHeartbeats 8000000 in
set_option maxRecDepth 100000 in
theorem laws_FnJpLength.calls (k : Nat) (a0 : ByteArray) (A1 : Option Addr) (c1 : Nat) (l1 : List ByteArray) (r : Bool) (w : World) (hr1 : Kd.C Kd.string w A1 l1.length l1) (hc1 : l1.length ≤ c1) (h : laws_FnJpLength.f k a0 l1 = some r) (hG : Glob w) :
    Calls Tryd.prog 3 #[.string a0, .slice A1 l1.length c1] w fun e w' => e = .returned (.bool r) ∧ Below w.heap.size w w' := by
 have hu27 := Tryd.underlying27
 have HR1 := Aside0.mk hr1
 have HC1 := Aside0.mk hc1
 clear hr1 hc1
 have HB := Aside0.mk (Below.refl w.heap.size w)
 have HG := Aside0.mk hG
 clear hG
 have H : (if (a0.size : Int) > 2147483647 then (laws_FnJpLength.j0 k a0 l1 true) else ((zF_.f k l1).bind fun t526 => (laws_FnJpLength.j0 k a0 l1 (!t526)))) = some r := h
 clear h
 have HC3 := Aside0.mk H
 clear H
 go_enter Tryd.func3, Tryd.ntmps3
 go_upto_region 1 with (fail)
 go_cut [16] (fun v16 wc => ∃ (kq : Nat) (x16_2 : Bool), v16 = .bool x16_2 ∧ Aside0 (laws_FnJpLength.j0 kq a0 l1 x16_2 = some r) ∧ Aside0 (kq ≤ k) ∧ Aside0 (Below w.heap.size w wc))
 case first =>
  have H := HC3.out
  clear HC3
  by_cases c4 : (a0.size : Int) > 2147483647
  ·
   rw [if_pos c4] at H
   have c4b0 : decide (2147483647 < (a0.size : Int)) = true := decide_eq_true c4
   have c4b1 : decide (2147483647 < a0.size) = true := decide_eq_true (by omega)
   clear c4
   (first | rw [c4b0] | (simp only [i64_w, i32_w]; rw [c4b0]) | rw [c4b1] | skip)
   have H' := Aside0.mk H
   clear H
   go_wp2
   go_meet
   case rel => exact ⟨_, (true), zE, H', ⟨by first | omega | exact Nat.le_refl _⟩, ⟨zB HB.out⟩⟩
  rw [if_neg c4] at H
  have c4b0 : decide (2147483647 < (a0.size : Int)) = false := decide_eq_false c4
  have c4b1 : decide (2147483647 < a0.size) = false := decide_eq_false (by omega)
  clear c4
  (first | rw [c4b0] | (simp only [i64_w, i32_w]; rw [c4b0]) | rw [c4b1] | skip)
  replace H := Option.bind_eq_some_iff.mp H
  obtain ⟨t526, A50, H⟩ := H
  try dsimp only at H
  have A5 := Aside0.mk A50
  clear A50
  have H' := Aside0.mk H
  clear H
  go_wp2_with (first | (go_at_call 4; (with_reducible refine (zF_.calls k _ _ l1 t526 _ ?side1 ?side2 A5.out).mono ?_); (case side1 => repeat (first | exact (Kd.C_below HR1.out HB.out) | (with_reducible refine Kd.C_alloc ?_ _) | (with_reducible refine Kd.C_drewN ?_ _) | (with_reducible refine Kd.C_drew ?_))); (case side2 => exact HC1.out); rintro e w' ⟨rfl, ⟨nd, rfl⟩⟩))
  go_meet
  case rel => exact ⟨_, (!t526), zE, H', ⟨by first | omega | exact Nat.le_refl _⟩, ⟨zB HB.out⟩⟩
 clear HC3
 (try clear c1)
 obtain ⟨kq, x16_2, rfl, HA, HJ2, HB⟩ := hcut
 rcases kq with _ | kj2
 · exact absurd HA.out (by simp [laws_FnJpLength.j0])
 have H := HA.out
 clear HA
 simp only [laws_FnJpLength.j0] at H
 by_cases c6 : x16_2 = true
 ·
  subst c6
  rw [if_pos rfl] at H
  obtain rfl := Option.some.inj H
  go_wp2
  go_ret
  exact ⟨zX, zB HB.out⟩
 replace c6 := Bool.eq_false_iff.mpr c6
 subst c6
 rw [if_neg Bool.false_ne_true] at H
 replace H := Option.bind_eq_some_iff.mp H
 obtain ⟨⟨t527, t528, t529, t530, t533, t536⟩, A70, H⟩ := H
 try dsimp only at H
 have A7 := Aside0.mk A70
 clear A70
 by_cases c8 : t536 = true
 ·
  subst c8
  rw [if_pos rfl] at H
  by_cases c9 : t527 = 5
  ·
   rw [if_pos c9] at H
   have c9b0 : (t527 == 5) = true := beq_iff_eq.mpr c9
   have c9b1 : (t527 != 5) = false := bne_eq_false_iff_eq.mpr c9
   clear c9
   by_cases c10 : 0 ≤ t528
   ·
    rw [if_pos c10] at H
    have c10b0 : decide (0 ≤ t528) = true := decide_eq_true c10
    clear c10
    by_cases c11 : t528 < (a0.size : Int)
    ·
     rw [if_pos c11] at H
     have c11b0 : decide (t528 < (a0.size : Int)) = true := decide_eq_true c11
     clear c11
     replace H := Option.bind_eq_some_iff.mp H
     obtain ⟨⟨t538, t539⟩, A130, H⟩ := H
     try dsimp only at H
     have A13 := Aside0.mk A130
     clear A130
     by_cases c14 : t539 = true
     ·
      subst c14
      rw [if_pos rfl] at H
      obtain rfl := Option.some.inj H
      try go_wp2_with (first | ((with_reducible refine gate_callee (f := 5) rfl ?_); refine goesL_ (some 20) rfl rfl Tryd.func5 (by kernel_rfl) rfl #[.string a0, .slice A1 l1.length c1] rfl zM ?_; (with_reducible refine (jF_.calls kj2 a0 _ _ l1 t527 t528 t529 t530 t533 true _ ?side1 ?side2 A7.out).mono ?_); (case side1 => repeat (first | exact (Kd.C_below HR1.out HB.out) | (with_reducible refine Kd.C_alloc ?_ _) | (with_reducible refine Kd.C_drewN ?_ _) | (with_reducible refine Kd.C_drew ?_))); (case side2 => exact HC1.out); rintro e w15 ⟨v531, v534, rfl, ho0, ho1, hb⟩; refine ⟨_, rfl, ?_⟩; have n0_ := Aside0.mk (Kd.V_lower (Kd.V_mono (ok' := fun k_ => True) ho0 (fun k_ hk_ => trivial)) (below_size (zB HB.out))); have n1_ := Aside0.mk (Kd.V_lower (Kd.V_mono (ok' := fun k_ => True) ho1 (fun k_ hk_ => trivial)) (below_size (zB HB.out))); have n2_ := Aside0.mk (below_step (zB HB.out) hb); clear HB; have HO532 := n0_; have HO535 := n1_; have HB := n2_; clear n0_ n1_ n2_; clear hb; (try clear ho0); (try clear ho1)) | ((with_reducible refine gate_dst (N := 5) rfl ?_); (try (refine gate_guard (by rfl) ?_; dsimp only)); refine box_event ?hg (N := 5) ?hd (cs := #[.int .i64 0, .int .i64 0, .int .i64 0, .slice none 0 0, .slice none 0 0]) (t := 27) ?hr ?_; (case hd => rfl); (case hg => rfl); (case hr => first | (go_simp; done) | (go_simp; rfl)); intro gb537 hg w16 hbox hb; have n0_ := Aside0.mk (Kd.V_below (Kd.V_elderB (zV HO532.out) gb537 (Nat.le_of_eq hg.symm)) hb); have n1_ := Aside0.mk (Kd.V_below (Kd.V_elderB (zV HO535.out) gb537 (Nat.le_of_eq hg.symm)) hb); have n2_ := Aside0.mk (below_step (zB HB.out) hb); have n3_ := Aside0.mk (hbox); have n4_ := Aside0.mk ((by rw [hg]; exact (below_size (zB HB.out)) : w.heap.size ≤ gb537)); have n5_ := Aside0.mk ((by rw [hg]; exact (below_size (zB HB.out)) : w.heap.size ≤ gb537)); clear HO532 HO535 HB; have HO532 := n0_; have HO535 := n1_; have HB := n2_; have BK537 := n3_; have GW537 := n4_; have GE537 := n5_; clear n0_ n1_ n2_ n3_ n4_ n5_; clear hb hbox hg; have hcz17_0 : w16.cell? ⟨gb537, 0, none⟩ = some (.int .i64 0) := (blk_cell BK537.out 0).trans rfl; have hcz17_1 : w16.cell? ⟨gb537, 1, none⟩ = some (.int .i64 0) := (blk_cell BK537.out 1).trans rfl; have hcz17_2 : w16.cell? ⟨gb537, 2, none⟩ = some (.int .i64 0) := (blk_cell BK537.out 2).trans rfl; have hcz17_3 : w16.cell? ⟨gb537, 3, none⟩ = some (.slice none 0 0) := (blk_cell BK537.out 3).trans rfl; have hcz17_4 : w16.cell? ⟨gb537, 4, none⟩ = some (.slice none 0 0) := (blk_cell BK537.out 4).trans rfl; have hfz17_0 := blk_frozen BK537.out 0; have hfz17_1 := blk_frozen BK537.out 1; have hfz17_2 := blk_frozen BK537.out 2; have hfz17_3 := blk_frozen BK537.out 3; have hfz17_4 := blk_frozen BK537.out 4; obtain ⟨Ao18, co18, eo18⟩ := Kd.V_slice HO532.out; subst eo18; obtain ⟨Ao19, co19, eo19⟩ := Kd.V_slice HO535.out; subst eo19))
      have n0_ : Aside0 (Kd.V k43 43 (((((w16.setCell ⟨gb537, 0, none⟩ (.int .i64 t527)).setCell ⟨gb537, 1, none⟩ (.int .i64 t528)).setCell ⟨gb537, 2, none⟩ (.int .i64 t529)).setCell ⟨gb537, 3, none⟩ (.slice Ao18 t530.length co18)).setCell ⟨gb537, 4, none⟩ (.slice Ao19 t533.length co19)) w.heap.size (fun k_ => k_ ≠ gb537) (.slice Ao18 t530.length co18) t530) := ⟨by (with_reducible repeat (first | apply Kd.V_alloc | apply Kd.V_drewN | apply Kd.V_drew)); exact Kd.V_mono (Kd.V_far (p := ⟨gb537, 4, none⟩) (Kd.V_far (p := ⟨gb537, 3, none⟩) (Kd.V_far (p := ⟨gb537, 2, none⟩) (Kd.V_far (p := ⟨gb537, 1, none⟩) (Kd.V_far (p := ⟨gb537, 0, none⟩) (Kd.V_mono HO532.out (fun k_ hk => (⟨hk, hk.2⟩ : _ ∧ k_ ≠ gb537))) (fun _ hk => hk.2) (.int .i64 t527)) (fun _ hk => hk.2) (.int .i64 t528)) (fun _ hk => hk.2) (.int .i64 t529)) (fun _ hk => hk.2) (.slice Ao18 t530.length co18)) (fun _ hk => hk.2) (.slice Ao19 t533.length co19)) (fun _ hk => hk.1.2)⟩
      have n1_ : Aside0 (Kd.V k27 27 (((((w16.setCell ⟨gb537, 0, none⟩ (.int .i64 t527)).setCell ⟨gb537, 1, none⟩ (.int .i64 t528)).setCell ⟨gb537, 2, none⟩ (.int .i64 t529)).setCell ⟨gb537, 3, none⟩ (.slice Ao18 t530.length co18)).setCell ⟨gb537, 4, none⟩ (.slice Ao19 t533.length co19)) w.heap.size (fun k_ => k_ ≠ gb537) (.slice Ao19 t533.length co19) t533) := ⟨by (with_reducible repeat (first | apply Kd.V_alloc | apply Kd.V_drewN | apply Kd.V_drew)); exact Kd.V_mono (Kd.V_far (p := ⟨gb537, 4, none⟩) (Kd.V_far (p := ⟨gb537, 3, none⟩) (Kd.V_far (p := ⟨gb537, 2, none⟩) (Kd.V_far (p := ⟨gb537, 1, none⟩) (Kd.V_far (p := ⟨gb537, 0, none⟩) (Kd.V_mono HO535.out (fun k_ hk => (⟨hk, hk.2⟩ : _ ∧ k_ ≠ gb537))) (fun _ hk => hk.2) (.int .i64 t527)) (fun _ hk => hk.2) (.int .i64 t528)) (fun _ hk => hk.2) (.int .i64 t529)) (fun _ hk => hk.2) (.slice Ao18 t530.length co18)) (fun _ hk => hk.2) (.slice Ao19 t533.length co19)) (fun _ hk => hk.1.2)⟩
      have n2_ : Aside0 ((((((w16.setCell ⟨gb537, 0, none⟩ (.int .i64 t527)).setCell ⟨gb537, 1, none⟩ (.int .i64 t528)).setCell ⟨gb537, 2, none⟩ (.int .i64 t529)).setCell ⟨gb537, 3, none⟩ (.slice Ao18 t530.length co18)).setCell ⟨gb537, 4, none⟩ (.slice Ao19 t533.length co19)).heap[gb537]? = some (.cells #[.int .i64 t527, .int .i64 t528, .int .i64 t529, .slice Ao18 t530.length co18, .slice Ao19 t533.length co19] 27 (0, 0))) := ⟨by (repeat refine zb ?_); refine blk_put (cs := #[.int .i64 t527, .int .i64 t528, .int .i64 t529, .slice Ao18 t530.length co18, .slice none 0 0]) ?_ 4 _ rfl; (repeat refine zb ?_); refine blk_put (cs := #[.int .i64 t527, .int .i64 t528, .int .i64 t529, .slice none 0 0, .slice none 0 0]) ?_ 3 _ rfl; (repeat refine zb ?_); refine blk_put (cs := #[.int .i64 t527, .int .i64 t528, .int .i64 0, .slice none 0 0, .slice none 0 0]) ?_ 2 _ rfl; (repeat refine zb ?_); refine blk_put (cs := #[.int .i64 t527, .int .i64 0, .int .i64 0, .slice none 0 0, .slice none 0 0]) ?_ 1 _ rfl; (repeat refine zb ?_); refine blk_put (cs := #[.int .i64 0, .int .i64 0, .int .i64 0, .slice none 0 0, .slice none 0 0]) ?_ 0 _ rfl; (repeat refine zb ?_); exact BK537.out⟩
      have n3_ : Aside0 (Below w.heap.size w (((((w16.setCell ⟨gb537, 0, none⟩ (.int .i64 t527)).setCell ⟨gb537, 1, none⟩ (.int .i64 t528)).setCell ⟨gb537, 2, none⟩ (.int .i64 t529)).setCell ⟨gb537, 3, none⟩ (.slice Ao18 t530.length co18)).setCell ⟨gb537, 4, none⟩ (.slice Ao19 t533.length co19))) := ⟨zB HB.out⟩
      (try clear HO532)
      (try clear HO535)
      (try clear BK537)
      (try clear HB)
      generalize (((((w16.setCell ⟨gb537, 0, none⟩ (.int .i64 t527)).setCell ⟨gb537, 1, none⟩ (.int .i64 t528)).setCell ⟨gb537, 2, none⟩ (.int .i64 t529)).setCell ⟨gb537, 3, none⟩ (.slice Ao18 t530.length co18)).setCell ⟨gb537, 4, none⟩ (.slice Ao19 t533.length co19)) = w20 at n0_ n1_ n2_ n3_ ⊢
      have HO532 := n0_
      have HO535 := n1_
      have BK537 := n2_
      have HB := n3_
      clear n0_ n1_ n2_ n3_
      have n0_ := Aside0.mk (Kd.V_drew HO532.out)
      have n1_ := Aside0.mk (Kd.V_drew HO535.out)
      have n2_ := Aside0.mk (blk_drew BK537.out)
      have n3_ := Aside0.mk (below_drew1 HB.out)
      clear HO532
      clear HO535
      clear BK537
      clear HB
      have HO532 := n0_
      have HO535 := n1_
      have BK537 := n2_
      have HB := n3_
      clear n0_ n1_ n2_ n3_
      have p12 : 0 ≤ (t528 : Int) := dT
      have q12 : t528 < (a0.size : Int) := dT
      have hx12 := bt_at a0 t528
      replace p12 := eq_true p12
      replace q12 := eq_true q12
      refine start_ (n := 13) (S := fun w' => w'.cell? ⟨gb537, 0, none⟩ = some (.int .i64 t527) ∧ w'.cell? ⟨gb537, 1, none⟩ = some (.int .i64 t528) ∧ w'.cell? ⟨gb537, 2, none⟩ = some (.int .i64 t529) ∧ w'.cell? ⟨gb537, 3, none⟩ = some (.slice Ao18 t530.length co18) ∧ w'.cell? ⟨gb537, 4, none⟩ = some (.slice Ao19 t533.length co19)) (ds := []) #[false, false, false, false, false, false, false, false, false, false, false, false, false] (by kernel_rfl) rfl rfl ⟨(blk_cell BK537.out 0).trans rfl, (blk_cell BK537.out 1).trans rfl, (blk_cell BK537.out 2).trans rfl, (blk_cell BK537.out 3).trans rfl, (blk_cell BK537.out 4).trans rfl⟩ (fun hHeld => ?_); refine with_tabW laws_FnJpLength.tab6 laws_FnJpLength.bits6 (fun HT_ HW_ => ?_)
      generalize w20.drew = w21 at HO532 HO535 BK537 HB hHeld ⊢
      refine pure_ (i := 0) (N := some 36) (v := ?_) (a' := ?_) #[true, false, false, false, false, false, false, false, false, false, false, false, false] rfl rfl (any_of HT_.out (by kernel_rfl)) (fun _ _ _ h => h) (Or.inl ⟨by rfl, ?_⟩) ?_ ?_
      rotate_left
      ·
       intro w'
       go_simp
       with_reducible rfl
      rotate_left
      ·
       simp only [Act.put, List.setIfInBounds_toArray, List.set_cons_zero, List.set_cons_succ, i64_w, i32_w]
       rfl
      refine pure_ (i := 1) (N := some 37) (v := ?_) (a' := ?_) #[true, true, false, false, false, false, false, false, false, false, false, false, false] rfl rfl (any_of HT_.out (by kernel_rfl)) (fun _ _ _ h => h) (Or.inl ⟨by rfl, ?_⟩) ?_ ?_
      rotate_left
      ·
       intro w'
       go_simp
       with_reducible rfl
      rotate_left
      ·
       simp only [Act.put, List.setIfInBounds_toArray, List.set_cons_zero, List.set_cons_succ, i64_w, i32_w]
       rfl
      refine pure_ (i := 3) (N := some 39) (v := ?_) (a' := ?_) #[true, true, false, true, false, false, false, false, false, false, false, false, false] rfl rfl (any_of HT_.out (by kernel_rfl)) (fun _ _ _ h => h) (Or.inl ⟨by rfl, ?_⟩) ?_ ?_
      rotate_left
      ·
       intro w'
       go_simp
       with_reducible rfl
      rotate_left
      ·
       simp only [Act.put, List.setIfInBounds_toArray, List.set_cons_zero, List.set_cons_succ, i64_w, i32_w]
       rfl
      refine pure_ (i := 4) (N := some 40) (v := ?_) (a' := ?_) #[true, true, false, true, true, false, false, false, false, false, false, false, false] rfl rfl (any_of HT_.out (by kernel_rfl)) (fun _ _ _ h => h) (Or.inl ⟨by rfl, ?_⟩) ?_ ?_
      rotate_left
      ·
       intro w'
       go_simp
       with_reducible rfl
      rotate_left
      ·
       simp only [Act.put, List.setIfInBounds_toArray, List.set_cons_zero, List.set_cons_succ, i64_w, i32_w]
       rfl
      refine take_ (i := 2) (N := some 38) (v := ?_) (a' := ?_) #[true, true, true, true, true, false, false, false, false, false, false, false, false] rfl rfl (take_ofW HT_.out HW_.out (by kernel_rfl)) (fun _ _ _ h => h) (Or.inl ⟨by rfl, ?_⟩) hHeld ?_ ?_
      rotate_left
      ·
       rintro w' ⟨s0, s1, s2, s3, s4⟩
       go_simp
       with_reducible rfl
      rotate_left
      ·
       simp only [Act.put, List.setIfInBounds_toArray, List.set_cons_zero, List.set_cons_succ, i64_w, i32_w]
       rfl
      refine take_ (i := 5) (N := some 41) (v := ?_) (a' := ?_) #[true, true, true, true, true, true, false, false, false, false, false, false, false] rfl rfl (take_ofW HT_.out HW_.out (by kernel_rfl)) (fun _ _ _ h => h) (Or.inl ⟨by rfl, ?_⟩) hHeld ?_ ?_
      rotate_left
      ·
       rintro w' ⟨s0, s1, s2, s3, s4⟩
       go_simp
       with_reducible rfl
      rotate_left
      ·
       simp only [Act.put, List.setIfInBounds_toArray, List.set_cons_zero, List.set_cons_succ, i64_w, i32_w]
       rfl
      refine take_ (i := 6) (N := some 42) (v := ?_) (a' := ?_) #[true, true, true, true, true, true, true, false, false, false, false, false, false] rfl rfl (take_ofW HT_.out HW_.out (by kernel_rfl)) (fun _ _ _ h => h) (Or.inl ⟨by rfl, ?_⟩) hHeld ?_ ?_
      rotate_left
      ·
       rintro w' ⟨s0, s1, s2, s3, s4⟩
       go_simp
       with_reducible rfl
      rotate_left
      ·
       simp only [Act.put, List.setIfInBounds_toArray, List.set_cons_zero, List.set_cons_succ, i64_w, i32_w]
       rfl
      refine one_ (i := 7) (N := some 43) #[true, true, true, true, true, true, true, true, false, false, false, false, false] rfl rfl (one_of HT_.out (by kernel_rfl)) (by decide) (fun K hK => ?_)
      refine goes_ Tryd.func6 (by kernel_rfl) rfl #[.string a0, .int .i64 t528, .int .u8 (bt a0 t528)] (by rfl) rfl rfl zM ?_
      with_reducible refine (JJL_.calls kj2 a0 t528 (bt a0 t528) t538 true _ A13.out (HG.out.below (zB HB.out))).mono ?_
      rintro e w22 ⟨rfl, hb⟩
      refine ⟨_, rfl, ?_⟩
      have n0_ := Aside0.mk (Kd.V_below (zV HO532.out) hb)
      have n1_ := Aside0.mk (Kd.V_below (zV HO535.out) hb)
      have n2_ := Aside0.mk (blk_below (g := gb537) (o := .cells #[.int .i64 t527, .int .i64 t528, .int .i64 t529, .slice Ao18 t530.length co18, .slice Ao19 t533.length co19] 27 (0, 0)) (by (repeat refine zb ?_); exact BK537.out) hb)
      have n3_ := Aside0.mk (below_step (zB HB.out) hb)
      clear HO532
      clear HO535
      clear BK537
      clear HB
      have HO532 := n0_
      have HO535 := n1_
      have BK537 := n2_
      have HB := n3_
      clear n0_ n1_ n2_ n3_
      (try clear hb)
      (try clear hb2)
      (try clear hk)
      (try clear hi)
      refine hK.out _ _ ⟨(blk_cell BK537.out 0).trans rfl, (blk_cell BK537.out 1).trans rfl, (blk_cell BK537.out 2).trans rfl, (blk_cell BK537.out 3).trans rfl, (blk_cell BK537.out 4).trans rfl⟩ (fun hHeld => ?_)
      clear hK K
      refine norm_ (a' := ?_) ?_ ?_
      rotate_left
      ·
       show Act.put _ (some 43) _ = _
       simp only [Act.put, List.setIfInBounds_toArray, List.set_cons_zero, List.set_cons_succ, i64_w, i32_w]
       rfl
      refine pure_ (i := 8) (N := some 35) (v := ?_) (a' := ?_) #[true, true, true, true, true, true, true, true, true, false, false, false, false] rfl rfl (any_of HT_.out (by kernel_rfl)) (fun _ _ _ h => h) (Or.inl ⟨by rfl, ?_⟩) ?_ ?_
      rotate_left
      ·
       intro w'
       go_simp
       with_reducible rfl
      rotate_left
      ·
       simp only [Act.put, List.setIfInBounds_toArray, List.set_cons_zero, List.set_cons_succ, i64_w, i32_w]
       rfl
      refine pure_ (i := 9) (N := some 44) (v := ?_) (a' := ?_) #[true, true, true, true, true, true, true, true, true, true, false, false, false] rfl rfl (any_of HT_.out (by kernel_rfl)) (fun _ _ _ h => h) (Or.inl ⟨by rfl, ?_⟩) ?_ ?_
      rotate_left
      ·
       intro w'
       go_simp
       with_reducible rfl
      rotate_left
      ·
       simp only [Act.put, List.setIfInBounds_toArray, List.set_cons_zero, List.set_cons_succ, i64_w, i32_w]
       rfl
      refine pure_ (i := 10) (N := some 45) (v := ?_) (a' := ?_) #[true, true, true, true, true, true, true, true, true, true, true, false, false] rfl rfl (any_of HT_.out (by kernel_rfl)) (fun _ _ _ h => h) (Or.inl ⟨by rfl, ?_⟩) ?_ ?_
      rotate_left
      ·
       intro w'
       go_simp
       with_reducible rfl
      rotate_left
      ·
       simp only [Act.put, List.setIfInBounds_toArray, List.set_cons_zero, List.set_cons_succ, i64_w, i32_w]
       rfl
      refine pure_ (i := 11) (N := some 7) (v := ?_) (a' := ?_) #[true, true, true, true, true, true, true, true, true, true, true, true, false] rfl rfl (any_of HT_.out (by kernel_rfl)) (fun _ _ _ h => h) (Or.inl ⟨by rfl, ?_⟩) ?_ ?_
      rotate_left
      ·
       intro w'
       go_simp
       with_reducible rfl
      rotate_left
      ·
       simp only [Act.put, List.setIfInBounds_toArray, List.set_cons_zero, List.set_cons_succ, i64_w, i32_w]
       rfl
      refine pure_ (i := 12) (N := some 8) (v := ?_) (a' := ?_) #[true, true, true, true, true, true, true, true, true, true, true, true, true] rfl rfl (any_of HT_.out (by kernel_rfl)) (fun _ _ _ h => h) (Or.inl ⟨by rfl, ?_⟩) ?_ ?_
      rotate_left
      ·
       intro w'
       go_simp
       with_reducible rfl
      rotate_left
      ·
       simp only [Act.put, List.setIfInBounds_toArray, List.set_cons_zero, List.set_cons_succ, i64_w, i32_w]
       rfl
      refine done_ (done_of HT_.out (by kernel_rfl)) ?_
      have hcz23_0 : w22.cell? ⟨gb537, 0, none⟩ = some (.int .i64 t527) := (blk_cell BK537.out 0).trans rfl
      have hcz23_1 : w22.cell? ⟨gb537, 1, none⟩ = some (.int .i64 t528) := (blk_cell BK537.out 1).trans rfl
      have hcz23_2 : w22.cell? ⟨gb537, 2, none⟩ = some (.int .i64 t529) := (blk_cell BK537.out 2).trans rfl
      have hcz23_3 : w22.cell? ⟨gb537, 3, none⟩ = some (.slice Ao18 t530.length co18) := (blk_cell BK537.out 3).trans rfl
      have hcz23_4 : w22.cell? ⟨gb537, 4, none⟩ = some (.slice Ao19 t533.length co19) := (blk_cell BK537.out 4).trans rfl
      have hfz23_0 := blk_frozen BK537.out 0
      have hfz23_1 := blk_frozen BK537.out 1
      have hfz23_2 := blk_frozen BK537.out 2
      have hfz23_3 := blk_frozen BK537.out 3
      have hfz23_4 := blk_frozen BK537.out 4
      try go_wp2
      go_ret
      exact ⟨zX, zB HB.out⟩
     replace c14 := Bool.eq_false_iff.mpr c14
     subst c14
     rw [if_neg Bool.false_ne_true] at H
     obtain rfl := Option.some.inj H
     try go_wp2_with (first | ((with_reducible refine gate_callee (f := 5) rfl ?_); refine goesL_ (some 20) rfl rfl Tryd.func5 (by kernel_rfl) rfl #[.string a0, .slice A1 l1.length c1] rfl zM ?_; (with_reducible refine (jF_.calls kj2 a0 _ _ l1 t527 t528 t529 t530 t533 true _ ?side1 ?side2 A7.out).mono ?_); (case side1 => repeat (first | exact (Kd.C_below HR1.out HB.out) | (with_reducible refine Kd.C_alloc ?_ _) | (with_reducible refine Kd.C_drewN ?_ _) | (with_reducible refine Kd.C_drew ?_))); (case side2 => exact HC1.out); rintro e w24 ⟨v531, v534, rfl, ho0, ho1, hb⟩; refine ⟨_, rfl, ?_⟩; have n0_ := Aside0.mk (Kd.V_lower (Kd.V_mono (ok' := fun k_ => True) ho0 (fun k_ hk_ => trivial)) (below_size (zB HB.out))); have n1_ := Aside0.mk (Kd.V_lower (Kd.V_mono (ok' := fun k_ => True) ho1 (fun k_ hk_ => trivial)) (below_size (zB HB.out))); have n2_ := Aside0.mk (below_step (zB HB.out) hb); clear HB; have HO532 := n0_; have HO535 := n1_; have HB := n2_; clear n0_ n1_ n2_; clear hb; (try clear ho0); (try clear ho1)) | ((with_reducible refine gate_dst (N := 5) rfl ?_); (try (refine gate_guard (by rfl) ?_; dsimp only)); refine box_event ?hg (N := 5) ?hd (cs := #[.int .i64 0, .int .i64 0, .int .i64 0, .slice none 0 0, .slice none 0 0]) (t := 27) ?hr ?_; (case hd => rfl); (case hg => rfl); (case hr => first | (go_simp; done) | (go_simp; rfl)); intro gb537 hg w25 hbox hb; have n0_ := Aside0.mk (Kd.V_below (Kd.V_elderB (zV HO532.out) gb537 (Nat.le_of_eq hg.symm)) hb); have n1_ := Aside0.mk (Kd.V_below (Kd.V_elderB (zV HO535.out) gb537 (Nat.le_of_eq hg.symm)) hb); have n2_ := Aside0.mk (below_step (zB HB.out) hb); have n3_ := Aside0.mk (hbox); have n4_ := Aside0.mk ((by rw [hg]; exact (below_size (zB HB.out)) : w.heap.size ≤ gb537)); have n5_ := Aside0.mk ((by rw [hg]; exact (below_size (zB HB.out)) : w.heap.size ≤ gb537)); clear HO532 HO535 HB; have HO532 := n0_; have HO535 := n1_; have HB := n2_; have BK537 := n3_; have GW537 := n4_; have GE537 := n5_; clear n0_ n1_ n2_ n3_ n4_ n5_; clear hb hbox hg; have hcz26_0 : w25.cell? ⟨gb537, 0, none⟩ = some (.int .i64 0) := (blk_cell BK537.out 0).trans rfl; have hcz26_1 : w25.cell? ⟨gb537, 1, none⟩ = some (.int .i64 0) := (blk_cell BK537.out 1).trans rfl; have hcz26_2 : w25.cell? ⟨gb537, 2, none⟩ = some (.int .i64 0) := (blk_cell BK537.out 2).trans rfl; have hcz26_3 : w25.cell? ⟨gb537, 3, none⟩ = some (.slice none 0 0) := (blk_cell BK537.out 3).trans rfl; have hcz26_4 : w25.cell? ⟨gb537, 4, none⟩ = some (.slice none 0 0) := (blk_cell BK537.out 4).trans rfl; have hfz26_0 := blk_frozen BK537.out 0; have hfz26_1 := blk_frozen BK537.out 1; have hfz26_2 := blk_frozen BK537.out 2; have hfz26_3 := blk_frozen BK537.out 3; have hfz26_4 := blk_frozen BK537.out 4; obtain ⟨Ao27, co27, eo27⟩ := Kd.V_slice HO532.out; subst eo27; obtain ⟨Ao28, co28, eo28⟩ := Kd.V_slice HO535.out; subst eo28))
     have n0_ : Aside0 (Kd.V k43 43 (((((w25.setCell ⟨gb537, 0, none⟩ (.int .i64 t527)).setCell ⟨gb537, 1, none⟩ (.int .i64 t528)).setCell ⟨gb537, 2, none⟩ (.int .i64 t529)).setCell ⟨gb537, 3, none⟩ (.slice Ao27 t530.length co27)).setCell ⟨gb537, 4, none⟩ (.slice Ao28 t533.length co28)) w.heap.size (fun k_ => k_ ≠ gb537) (.slice Ao27 t530.length co27) t530) := ⟨by (with_reducible repeat (first | apply Kd.V_alloc | apply Kd.V_drewN | apply Kd.V_drew)); exact Kd.V_mono (Kd.V_far (p := ⟨gb537, 4, none⟩) (Kd.V_far (p := ⟨gb537, 3, none⟩) (Kd.V_far (p := ⟨gb537, 2, none⟩) (Kd.V_far (p := ⟨gb537, 1, none⟩) (Kd.V_far (p := ⟨gb537, 0, none⟩) (Kd.V_mono HO532.out (fun k_ hk => (⟨hk, hk.2⟩ : _ ∧ k_ ≠ gb537))) (fun _ hk => hk.2) (.int .i64 t527)) (fun _ hk => hk.2) (.int .i64 t528)) (fun _ hk => hk.2) (.int .i64 t529)) (fun _ hk => hk.2) (.slice Ao27 t530.length co27)) (fun _ hk => hk.2) (.slice Ao28 t533.length co28)) (fun _ hk => hk.1.2)⟩
     have n1_ : Aside0 (Kd.V k27 27 (((((w25.setCell ⟨gb537, 0, none⟩ (.int .i64 t527)).setCell ⟨gb537, 1, none⟩ (.int .i64 t528)).setCell ⟨gb537, 2, none⟩ (.int .i64 t529)).setCell ⟨gb537, 3, none⟩ (.slice Ao27 t530.length co27)).setCell ⟨gb537, 4, none⟩ (.slice Ao28 t533.length co28)) w.heap.size (fun k_ => k_ ≠ gb537) (.slice Ao28 t533.length co28) t533) := ⟨by (with_reducible repeat (first | apply Kd.V_alloc | apply Kd.V_drewN | apply Kd.V_drew)); exact Kd.V_mono (Kd.V_far (p := ⟨gb537, 4, none⟩) (Kd.V_far (p := ⟨gb537, 3, none⟩) (Kd.V_far (p := ⟨gb537, 2, none⟩) (Kd.V_far (p := ⟨gb537, 1, none⟩) (Kd.V_far (p := ⟨gb537, 0, none⟩) (Kd.V_mono HO535.out (fun k_ hk => (⟨hk, hk.2⟩ : _ ∧ k_ ≠ gb537))) (fun _ hk => hk.2) (.int .i64 t527)) (fun _ hk => hk.2) (.int .i64 t528)) (fun _ hk => hk.2) (.int .i64 t529)) (fun _ hk => hk.2) (.slice Ao27 t530.length co27)) (fun _ hk => hk.2) (.slice Ao28 t533.length co28)) (fun _ hk => hk.1.2)⟩
     have n2_ : Aside0 ((((((w25.setCell ⟨gb537, 0, none⟩ (.int .i64 t527)).setCell ⟨gb537, 1, none⟩ (.int .i64 t528)).setCell ⟨gb537, 2, none⟩ (.int .i64 t529)).setCell ⟨gb537, 3, none⟩ (.slice Ao27 t530.length co27)).setCell ⟨gb537, 4, none⟩ (.slice Ao28 t533.length co28)).heap[gb537]? = some (.cells #[.int .i64 t527, .int .i64 t528, .int .i64 t529, .slice Ao27 t530.length co27, .slice Ao28 t533.length co28] 27 (0, 0))) := ⟨by (repeat refine zb ?_); refine blk_put (cs := #[.int .i64 t527, .int .i64 t528, .int .i64 t529, .slice Ao27 t530.length co27, .slice none 0 0]) ?_ 4 _ rfl; (repeat refine zb ?_); refine blk_put (cs := #[.int .i64 t527, .int .i64 t528, .int .i64 t529, .slice none 0 0, .slice none 0 0]) ?_ 3 _ rfl; (repeat refine zb ?_); refine blk_put (cs := #[.int .i64 t527, .int .i64 t528, .int .i64 0, .slice none 0 0, .slice none 0 0]) ?_ 2 _ rfl; (repeat refine zb ?_); refine blk_put (cs := #[.int .i64 t527, .int .i64 0, .int .i64 0, .slice none 0 0, .slice none 0 0]) ?_ 1 _ rfl; (repeat refine zb ?_); refine blk_put (cs := #[.int .i64 0, .int .i64 0, .int .i64 0, .slice none 0 0, .slice none 0 0]) ?_ 0 _ rfl; (repeat refine zb ?_); exact BK537.out⟩
     have n3_ : Aside0 (Below w.heap.size w (((((w25.setCell ⟨gb537, 0, none⟩ (.int .i64 t527)).setCell ⟨gb537, 1, none⟩ (.int .i64 t528)).setCell ⟨gb537, 2, none⟩ (.int .i64 t529)).setCell ⟨gb537, 3, none⟩ (.slice Ao27 t530.length co27)).setCell ⟨gb537, 4, none⟩ (.slice Ao28 t533.length co28))) := ⟨zB HB.out⟩
     (try clear HO532)
     (try clear HO535)
     (try clear BK537)
     (try clear HB)
     generalize (((((w25.setCell ⟨gb537, 0, none⟩ (.int .i64 t527)).setCell ⟨gb537, 1, none⟩ (.int .i64 t528)).setCell ⟨gb537, 2, none⟩ (.int .i64 t529)).setCell ⟨gb537, 3, none⟩ (.slice Ao27 t530.length co27)).setCell ⟨gb537, 4, none⟩ (.slice Ao28 t533.length co28)) = w29 at n0_ n1_ n2_ n3_ ⊢
     have HO532 := n0_
     have HO535 := n1_
     have BK537 := n2_
     have HB := n3_
     clear n0_ n1_ n2_ n3_
     have n0_ := Aside0.mk (Kd.V_drew HO532.out)
     have n1_ := Aside0.mk (Kd.V_drew HO535.out)
     have n2_ := Aside0.mk (blk_drew BK537.out)
     have n3_ := Aside0.mk (below_drew1 HB.out)
     clear HO532
     clear HO535
     clear BK537
     clear HB
     have HO532 := n0_
     have HO535 := n1_
     have BK537 := n2_
     have HB := n3_
     clear n0_ n1_ n2_ n3_
     have p12 : 0 ≤ (t528 : Int) := dT
     have q12 : t528 < (a0.size : Int) := dT
     have hx12 := bt_at a0 t528
     replace p12 := eq_true p12
     replace q12 := eq_true q12
     refine start_ (n := 13) (S := fun w' => w'.cell? ⟨gb537, 0, none⟩ = some (.int .i64 t527) ∧ w'.cell? ⟨gb537, 1, none⟩ = some (.int .i64 t528) ∧ w'.cell? ⟨gb537, 2, none⟩ = some (.int .i64 t529) ∧ w'.cell? ⟨gb537, 3, none⟩ = some (.slice Ao27 t530.length co27) ∧ w'.cell? ⟨gb537, 4, none⟩ = some (.slice Ao28 t533.length co28)) (ds := []) #[false, false, false, false, false, false, false, false, false, false, false, false, false] (by kernel_rfl) rfl rfl ⟨(blk_cell BK537.out 0).trans rfl, (blk_cell BK537.out 1).trans rfl, (blk_cell BK537.out 2).trans rfl, (blk_cell BK537.out 3).trans rfl, (blk_cell BK537.out 4).trans rfl⟩ (fun hHeld => ?_); refine with_tabW laws_FnJpLength.tab6 laws_FnJpLength.bits6 (fun HT_ HW_ => ?_)
     generalize w29.drew = w30 at HO532 HO535 BK537 HB hHeld ⊢
     refine pure_ (i := 0) (N := some 36) (v := ?_) (a' := ?_) #[true, false, false, false, false, false, false, false, false, false, false, false, false] rfl rfl (any_of HT_.out (by kernel_rfl)) (fun _ _ _ h => h) (Or.inl ⟨by rfl, ?_⟩) ?_ ?_
     rotate_left
     ·
      intro w'
      go_simp
      with_reducible rfl
     rotate_left
     ·
      simp only [Act.put, List.setIfInBounds_toArray, List.set_cons_zero, List.set_cons_succ, i64_w, i32_w]
      rfl
     refine pure_ (i := 1) (N := some 37) (v := ?_) (a' := ?_) #[true, true, false, false, false, false, false, false, false, false, false, false, false] rfl rfl (any_of HT_.out (by kernel_rfl)) (fun _ _ _ h => h) (Or.inl ⟨by rfl, ?_⟩) ?_ ?_
     rotate_left
     ·
      intro w'
      go_simp
      with_reducible rfl
     rotate_left
     ·
      simp only [Act.put, List.setIfInBounds_toArray, List.set_cons_zero, List.set_cons_succ, i64_w, i32_w]
      rfl
     refine pure_ (i := 3) (N := some 39) (v := ?_) (a' := ?_) #[true, true, false, true, false, false, false, false, false, false, false, false, false] rfl rfl (any_of HT_.out (by kernel_rfl)) (fun _ _ _ h => h) (Or.inl ⟨by rfl, ?_⟩) ?_ ?_
     rotate_left
     ·
      intro w'
      go_simp
      with_reducible rfl
     rotate_left
     ·
      simp only [Act.put, List.setIfInBounds_toArray, List.set_cons_zero, List.set_cons_succ, i64_w, i32_w]
      rfl
     refine pure_ (i := 4) (N := some 40) (v := ?_) (a' := ?_) #[true, true, false, true, true, false, false, false, false, false, false, false, false] rfl rfl (any_of HT_.out (by kernel_rfl)) (fun _ _ _ h => h) (Or.inl ⟨by rfl, ?_⟩) ?_ ?_
     rotate_left
     ·
      intro w'
      go_simp
      with_reducible rfl
     rotate_left
     ·
      simp only [Act.put, List.setIfInBounds_toArray, List.set_cons_zero, List.set_cons_succ, i64_w, i32_w]
      rfl
     refine take_ (i := 2) (N := some 38) (v := ?_) (a' := ?_) #[true, true, true, true, true, false, false, false, false, false, false, false, false] rfl rfl (take_ofW HT_.out HW_.out (by kernel_rfl)) (fun _ _ _ h => h) (Or.inl ⟨by rfl, ?_⟩) hHeld ?_ ?_
     rotate_left
     ·
      rintro w' ⟨s0, s1, s2, s3, s4⟩
      go_simp
      with_reducible rfl
     rotate_left
     ·
      simp only [Act.put, List.setIfInBounds_toArray, List.set_cons_zero, List.set_cons_succ, i64_w, i32_w]
      rfl
     refine take_ (i := 5) (N := some 41) (v := ?_) (a' := ?_) #[true, true, true, true, true, true, false, false, false, false, false, false, false] rfl rfl (take_ofW HT_.out HW_.out (by kernel_rfl)) (fun _ _ _ h => h) (Or.inl ⟨by rfl, ?_⟩) hHeld ?_ ?_
     rotate_left
     ·
      rintro w' ⟨s0, s1, s2, s3, s4⟩
      go_simp
      with_reducible rfl
     rotate_left
     ·
      simp only [Act.put, List.setIfInBounds_toArray, List.set_cons_zero, List.set_cons_succ, i64_w, i32_w]
      rfl
     refine take_ (i := 6) (N := some 42) (v := ?_) (a' := ?_) #[true, true, true, true, true, true, true, false, false, false, false, false, false] rfl rfl (take_ofW HT_.out HW_.out (by kernel_rfl)) (fun _ _ _ h => h) (Or.inl ⟨by rfl, ?_⟩) hHeld ?_ ?_
     rotate_left
     ·
      rintro w' ⟨s0, s1, s2, s3, s4⟩
      go_simp
      with_reducible rfl
     rotate_left
     ·
      simp only [Act.put, List.setIfInBounds_toArray, List.set_cons_zero, List.set_cons_succ, i64_w, i32_w]
      rfl
     refine one_ (i := 7) (N := some 43) #[true, true, true, true, true, true, true, true, false, false, false, false, false] rfl rfl (one_of HT_.out (by kernel_rfl)) (by decide) (fun K hK => ?_)
     refine goes_ Tryd.func6 (by kernel_rfl) rfl #[.string a0, .int .i64 t528, .int .u8 (bt a0 t528)] (by rfl) rfl rfl zM ?_
     with_reducible refine (JJL_.calls kj2 a0 t528 (bt a0 t528) t538 false _ A13.out (HG.out.below (zB HB.out))).mono ?_
     rintro e w31 ⟨rfl, hb⟩
     refine ⟨_, rfl, ?_⟩
     have n0_ := Aside0.mk (Kd.V_below (zV HO532.out) hb)
     have n1_ := Aside0.mk (Kd.V_below (zV HO535.out) hb)
     have n2_ := Aside0.mk (blk_below (g := gb537) (o := .cells #[.int .i64 t527, .int .i64 t528, .int .i64 t529, .slice Ao27 t530.length co27, .slice Ao28 t533.length co28] 27 (0, 0)) (by (repeat refine zb ?_); exact BK537.out) hb)
     have n3_ := Aside0.mk (below_step (zB HB.out) hb)
     clear HO532
     clear HO535
     clear BK537
     clear HB
     have HO532 := n0_
     have HO535 := n1_
     have BK537 := n2_
     have HB := n3_
     clear n0_ n1_ n2_ n3_
     (try clear hb)
     (try clear hb2)
     (try clear hk)
     (try clear hi)
     refine hK.out _ _ ⟨(blk_cell BK537.out 0).trans rfl, (blk_cell BK537.out 1).trans rfl, (blk_cell BK537.out 2).trans rfl, (blk_cell BK537.out 3).trans rfl, (blk_cell BK537.out 4).trans rfl⟩ (fun hHeld => ?_)
     clear hK K
     refine norm_ (a' := ?_) ?_ ?_
     rotate_left
     ·
      show Act.put _ (some 43) _ = _
      simp only [Act.put, List.setIfInBounds_toArray, List.set_cons_zero, List.set_cons_succ, i64_w, i32_w]
      rfl
     refine pure_ (i := 8) (N := some 35) (v := ?_) (a' := ?_) #[true, true, true, true, true, true, true, true, true, false, false, false, false] rfl rfl (any_of HT_.out (by kernel_rfl)) (fun _ _ _ h => h) (Or.inl ⟨by rfl, ?_⟩) ?_ ?_
     rotate_left
     ·
      intro w'
      go_simp
      with_reducible rfl
     rotate_left
     ·
      simp only [Act.put, List.setIfInBounds_toArray, List.set_cons_zero, List.set_cons_succ, i64_w, i32_w]
      rfl
     refine pure_ (i := 9) (N := some 44) (v := ?_) (a' := ?_) #[true, true, true, true, true, true, true, true, true, true, false, false, false] rfl rfl (any_of HT_.out (by kernel_rfl)) (fun _ _ _ h => h) (Or.inl ⟨by rfl, ?_⟩) ?_ ?_
     rotate_left
     ·
      intro w'
      go_simp
      with_reducible rfl
     rotate_left
     ·
      simp only [Act.put, List.setIfInBounds_toArray, List.set_cons_zero, List.set_cons_succ, i64_w, i32_w]
      rfl
     refine pure_ (i := 10) (N := some 45) (v := ?_) (a' := ?_) #[true, true, true, true, true, true, true, true, true, true, true, false, false] rfl rfl (any_of HT_.out (by kernel_rfl)) (fun _ _ _ h => h) (Or.inl ⟨by rfl, ?_⟩) ?_ ?_
     rotate_left
     ·
      intro w'
      go_simp
      with_reducible rfl
     rotate_left
     ·
      simp only [Act.put, List.setIfInBounds_toArray, List.set_cons_zero, List.set_cons_succ, i64_w, i32_w]
      rfl
     refine pure_ (i := 11) (N := some 7) (v := ?_) (a' := ?_) #[true, true, true, true, true, true, true, true, true, true, true, true, false] rfl rfl (any_of HT_.out (by kernel_rfl)) (fun _ _ _ h => h) (Or.inl ⟨by rfl, ?_⟩) ?_ ?_
     rotate_left
     ·
      intro w'
      go_simp
      with_reducible rfl
     rotate_left
     ·
      simp only [Act.put, List.setIfInBounds_toArray, List.set_cons_zero, List.set_cons_succ, i64_w, i32_w]
      rfl
     refine pure_ (i := 12) (N := some 8) (v := ?_) (a' := ?_) #[true, true, true, true, true, true, true, true, true, true, true, true, true] rfl rfl (any_of HT_.out (by kernel_rfl)) (fun _ _ _ h => h) (Or.inl ⟨by rfl, ?_⟩) ?_ ?_
     rotate_left
     ·
      intro w'
      go_simp
      with_reducible rfl
     rotate_left
     ·
      simp only [Act.put, List.setIfInBounds_toArray, List.set_cons_zero, List.set_cons_succ, i64_w, i32_w]
      rfl
     refine done_ (done_of HT_.out (by kernel_rfl)) ?_
     try go_wp2
     go_ret
     exact ⟨zX, zB HB.out⟩
    rw [if_neg c11] at H
    exact absurd H (by simp)
   rw [if_neg c10] at H
   exact absurd H (by simp)
  rw [if_neg c9] at H
  have c9b0 : (t527 == 5) = false := beq_eq_false_iff_ne.mpr c9
  have c9b1 : (t527 != 5) = true := bne_iff_ne.mpr c9
  by_cases c32 : t527 = 6
  ·
   rw [if_pos c32] at H
   have c32b0 : (t527 == 6) = true := beq_iff_eq.mpr c32
   have c32b1 : (t527 != 6) = false := bne_eq_false_iff_eq.mpr c32
   clear c32
   by_cases c33 : 0 ≤ t528
   ·
    rw [if_pos c33] at H
    have c33b0 : decide (0 ≤ t528) = true := decide_eq_true c33
    clear c33
    by_cases c34 : t528 < (a0.size : Int)
    ·
     rw [if_pos c34] at H
     have c34b0 : decide (t528 < (a0.size : Int)) = true := decide_eq_true c34
     clear c34
     replace H := Option.bind_eq_some_iff.mp H
     obtain ⟨⟨t540, t541⟩, A360, H⟩ := H
     try dsimp only at H
     have A36 := Aside0.mk A360
     clear A360
     by_cases c37 : t541 = true
     ·
      subst c37
      rw [if_pos rfl] at H
      obtain rfl := Option.some.inj H
      try go_wp2_with (first | ((with_reducible refine gate_callee (f := 5) rfl ?_); refine goesL_ (some 20) rfl rfl Tryd.func5 (by kernel_rfl) rfl #[.string a0, .slice A1 l1.length c1] rfl zM ?_; (with_reducible refine (jF_.calls kj2 a0 _ _ l1 t527 t528 t529 t530 t533 true _ ?side1 ?side2 A7.out).mono ?_); (case side1 => repeat (first | exact (Kd.C_below HR1.out HB.out) | (with_reducible refine Kd.C_alloc ?_ _) | (with_reducible refine Kd.C_drewN ?_ _) | (with_reducible refine Kd.C_drew ?_))); (case side2 => exact HC1.out); rintro e w38 ⟨v531, v534, rfl, ho0, ho1, hb⟩; refine ⟨_, rfl, ?_⟩; have n0_ := Aside0.mk (Kd.V_lower (Kd.V_mono (ok' := fun k_ => True) ho0 (fun k_ hk_ => trivial)) (below_size (zB HB.out))); have n1_ := Aside0.mk (Kd.V_lower (Kd.V_mono (ok' := fun k_ => True) ho1 (fun k_ hk_ => trivial)) (below_size (zB HB.out))); have n2_ := Aside0.mk (below_step (zB HB.out) hb); clear HB; have HO532 := n0_; have HO535 := n1_; have HB := n2_; clear n0_ n1_ n2_; clear hb; (try clear ho0); (try clear ho1)) | ((with_reducible refine gate_dst (N := 5) rfl ?_); (try (refine gate_guard (by rfl) ?_; dsimp only)); refine box_event ?hg (N := 5) ?hd (cs := #[.int .i64 0, .int .i64 0, .int .i64 0, .slice none 0 0, .slice none 0 0]) (t := 27) ?hr ?_; (case hd => rfl); (case hg => rfl); (case hr => first | (go_simp; done) | (go_simp; rfl)); intro gb537 hg w39 hbox hb; have n0_ := Aside0.mk (Kd.V_below (Kd.V_elderB (zV HO532.out) gb537 (Nat.le_of_eq hg.symm)) hb); have n1_ := Aside0.mk (Kd.V_below (Kd.V_elderB (zV HO535.out) gb537 (Nat.le_of_eq hg.symm)) hb); have n2_ := Aside0.mk (below_step (zB HB.out) hb); have n3_ := Aside0.mk (hbox); have n4_ := Aside0.mk ((by rw [hg]; exact (below_size (zB HB.out)) : w.heap.size ≤ gb537)); have n5_ := Aside0.mk ((by rw [hg]; exact (below_size (zB HB.out)) : w.heap.size ≤ gb537)); clear HO532 HO535 HB; have HO532 := n0_; have HO535 := n1_; have HB := n2_; have BK537 := n3_; have GW537 := n4_; have GE537 := n5_; clear n0_ n1_ n2_ n3_ n4_ n5_; clear hb hbox hg; have hcz40_0 : w39.cell? ⟨gb537, 0, none⟩ = some (.int .i64 0) := (blk_cell BK537.out 0).trans rfl; have hcz40_1 : w39.cell? ⟨gb537, 1, none⟩ = some (.int .i64 0) := (blk_cell BK537.out 1).trans rfl; have hcz40_2 : w39.cell? ⟨gb537, 2, none⟩ = some (.int .i64 0) := (blk_cell BK537.out 2).trans rfl; have hcz40_3 : w39.cell? ⟨gb537, 3, none⟩ = some (.slice none 0 0) := (blk_cell BK537.out 3).trans rfl; have hcz40_4 : w39.cell? ⟨gb537, 4, none⟩ = some (.slice none 0 0) := (blk_cell BK537.out 4).trans rfl; have hfz40_0 := blk_frozen BK537.out 0; have hfz40_1 := blk_frozen BK537.out 1; have hfz40_2 := blk_frozen BK537.out 2; have hfz40_3 := blk_frozen BK537.out 3; have hfz40_4 := blk_frozen BK537.out 4; obtain ⟨Ao41, co41, eo41⟩ := Kd.V_slice HO532.out; subst eo41; obtain ⟨Ao42, co42, eo42⟩ := Kd.V_slice HO535.out; subst eo42))
      have n0_ : Aside0 (Kd.V k43 43 (((((w39.setCell ⟨gb537, 0, none⟩ (.int .i64 t527)).setCell ⟨gb537, 1, none⟩ (.int .i64 t528)).setCell ⟨gb537, 2, none⟩ (.int .i64 t529)).setCell ⟨gb537, 3, none⟩ (.slice Ao41 t530.length co41)).setCell ⟨gb537, 4, none⟩ (.slice Ao42 t533.length co42)) w.heap.size (fun k_ => k_ ≠ gb537) (.slice Ao41 t530.length co41) t530) := ⟨by (with_reducible repeat (first | apply Kd.V_alloc | apply Kd.V_drewN | apply Kd.V_drew)); exact Kd.V_mono (Kd.V_far (p := ⟨gb537, 4, none⟩) (Kd.V_far (p := ⟨gb537, 3, none⟩) (Kd.V_far (p := ⟨gb537, 2, none⟩) (Kd.V_far (p := ⟨gb537, 1, none⟩) (Kd.V_far (p := ⟨gb537, 0, none⟩) (Kd.V_mono HO532.out (fun k_ hk => (⟨hk, hk.2⟩ : _ ∧ k_ ≠ gb537))) (fun _ hk => hk.2) (.int .i64 t527)) (fun _ hk => hk.2) (.int .i64 t528)) (fun _ hk => hk.2) (.int .i64 t529)) (fun _ hk => hk.2) (.slice Ao41 t530.length co41)) (fun _ hk => hk.2) (.slice Ao42 t533.length co42)) (fun _ hk => hk.1.2)⟩
      have n1_ : Aside0 (Kd.V k27 27 (((((w39.setCell ⟨gb537, 0, none⟩ (.int .i64 t527)).setCell ⟨gb537, 1, none⟩ (.int .i64 t528)).setCell ⟨gb537, 2, none⟩ (.int .i64 t529)).setCell ⟨gb537, 3, none⟩ (.slice Ao41 t530.length co41)).setCell ⟨gb537, 4, none⟩ (.slice Ao42 t533.length co42)) w.heap.size (fun k_ => k_ ≠ gb537) (.slice Ao42 t533.length co42) t533) := ⟨by (with_reducible repeat (first | apply Kd.V_alloc | apply Kd.V_drewN | apply Kd.V_drew)); exact Kd.V_mono (Kd.V_far (p := ⟨gb537, 4, none⟩) (Kd.V_far (p := ⟨gb537, 3, none⟩) (Kd.V_far (p := ⟨gb537, 2, none⟩) (Kd.V_far (p := ⟨gb537, 1, none⟩) (Kd.V_far (p := ⟨gb537, 0, none⟩) (Kd.V_mono HO535.out (fun k_ hk => (⟨hk, hk.2⟩ : _ ∧ k_ ≠ gb537))) (fun _ hk => hk.2) (.int .i64 t527)) (fun _ hk => hk.2) (.int .i64 t528)) (fun _ hk => hk.2) (.int .i64 t529)) (fun _ hk => hk.2) (.slice Ao41 t530.length co41)) (fun _ hk => hk.2) (.slice Ao42 t533.length co42)) (fun _ hk => hk.1.2)⟩
      have n2_ : Aside0 ((((((w39.setCell ⟨gb537, 0, none⟩ (.int .i64 t527)).setCell ⟨gb537, 1, none⟩ (.int .i64 t528)).setCell ⟨gb537, 2, none⟩ (.int .i64 t529)).setCell ⟨gb537, 3, none⟩ (.slice Ao41 t530.length co41)).setCell ⟨gb537, 4, none⟩ (.slice Ao42 t533.length co42)).heap[gb537]? = some (.cells #[.int .i64 t527, .int .i64 t528, .int .i64 t529, .slice Ao41 t530.length co41, .slice Ao42 t533.length co42] 27 (0, 0))) := ⟨by (repeat refine zb ?_); refine blk_put (cs := #[.int .i64 t527, .int .i64 t528, .int .i64 t529, .slice Ao41 t530.length co41, .slice none 0 0]) ?_ 4 _ rfl; (repeat refine zb ?_); refine blk_put (cs := #[.int .i64 t527, .int .i64 t528, .int .i64 t529, .slice none 0 0, .slice none 0 0]) ?_ 3 _ rfl; (repeat refine zb ?_); refine blk_put (cs := #[.int .i64 t527, .int .i64 t528, .int .i64 0, .slice none 0 0, .slice none 0 0]) ?_ 2 _ rfl; (repeat refine zb ?_); refine blk_put (cs := #[.int .i64 t527, .int .i64 0, .int .i64 0, .slice none 0 0, .slice none 0 0]) ?_ 1 _ rfl; (repeat refine zb ?_); refine blk_put (cs := #[.int .i64 0, .int .i64 0, .int .i64 0, .slice none 0 0, .slice none 0 0]) ?_ 0 _ rfl; (repeat refine zb ?_); exact BK537.out⟩
      have n3_ : Aside0 (Below w.heap.size w (((((w39.setCell ⟨gb537, 0, none⟩ (.int .i64 t527)).setCell ⟨gb537, 1, none⟩ (.int .i64 t528)).setCell ⟨gb537, 2, none⟩ (.int .i64 t529)).setCell ⟨gb537, 3, none⟩ (.slice Ao41 t530.length co41)).setCell ⟨gb537, 4, none⟩ (.slice Ao42 t533.length co42))) := ⟨zB HB.out⟩
      (try clear HO532)
      (try clear HO535)
      (try clear BK537)
      (try clear HB)
      generalize (((((w39.setCell ⟨gb537, 0, none⟩ (.int .i64 t527)).setCell ⟨gb537, 1, none⟩ (.int .i64 t528)).setCell ⟨gb537, 2, none⟩ (.int .i64 t529)).setCell ⟨gb537, 3, none⟩ (.slice Ao41 t530.length co41)).setCell ⟨gb537, 4, none⟩ (.slice Ao42 t533.length co42)) = w43 at n0_ n1_ n2_ n3_ ⊢
      have HO532 := n0_
      have HO535 := n1_
      have BK537 := n2_
      have HB := n3_
      clear n0_ n1_ n2_ n3_
      have n0_ := Aside0.mk (Kd.V_drew HO532.out)
      have n1_ := Aside0.mk (Kd.V_drew HO535.out)
      have n2_ := Aside0.mk (blk_drew BK537.out)
      have n3_ := Aside0.mk (below_drew1 HB.out)
      clear HO532
      clear HO535
      clear BK537
      clear HB
      have HO532 := n0_
      have HO535 := n1_
      have BK537 := n2_
      have HB := n3_
      clear n0_ n1_ n2_ n3_
      have p35 : 0 ≤ (t528 : Int) := dT
      have q35 : t528 < (a0.size : Int) := dT
      have hx35 := bt_at a0 t528
      replace p35 := eq_true p35
      replace q35 := eq_true q35
      refine start_ (n := 13) (S := fun w' => w'.cell? ⟨gb537, 0, none⟩ = some (.int .i64 t527) ∧ w'.cell? ⟨gb537, 1, none⟩ = some (.int .i64 t528) ∧ w'.cell? ⟨gb537, 2, none⟩ = some (.int .i64 t529) ∧ w'.cell? ⟨gb537, 3, none⟩ = some (.slice Ao41 t530.length co41) ∧ w'.cell? ⟨gb537, 4, none⟩ = some (.slice Ao42 t533.length co42)) (ds := []) #[false, false, false, false, false, false, false, false, false, false, false, false, false] (by kernel_rfl) rfl rfl ⟨(blk_cell BK537.out 0).trans rfl, (blk_cell BK537.out 1).trans rfl, (blk_cell BK537.out 2).trans rfl, (blk_cell BK537.out 3).trans rfl, (blk_cell BK537.out 4).trans rfl⟩ (fun hHeld => ?_); refine with_tabW laws_FnJpLength.tab6 laws_FnJpLength.bits6 (fun HT_ HW_ => ?_)
      generalize w43.drew = w44 at HO532 HO535 BK537 HB hHeld ⊢
      refine pure_ (i := 0) (N := some 36) (v := ?_) (a' := ?_) #[true, false, false, false, false, false, false, false, false, false, false, false, false] rfl rfl (any_of HT_.out (by kernel_rfl)) (fun _ _ _ h => h) (Or.inl ⟨by rfl, ?_⟩) ?_ ?_
      rotate_left
      ·
       intro w'
       go_simp
       with_reducible rfl
      rotate_left
      ·
       simp only [Act.put, List.setIfInBounds_toArray, List.set_cons_zero, List.set_cons_succ, i64_w, i32_w]
       rfl
      refine pure_ (i := 1) (N := some 37) (v := ?_) (a' := ?_) #[true, true, false, false, false, false, false, false, false, false, false, false, false] rfl rfl (any_of HT_.out (by kernel_rfl)) (fun _ _ _ h => h) (Or.inl ⟨by rfl, ?_⟩) ?_ ?_
      rotate_left
      ·
       intro w'
       go_simp
       with_reducible rfl
      rotate_left
      ·
       simp only [Act.put, List.setIfInBounds_toArray, List.set_cons_zero, List.set_cons_succ, i64_w, i32_w]
       rfl
      refine pure_ (i := 3) (N := some 39) (v := ?_) (a' := ?_) #[true, true, false, true, false, false, false, false, false, false, false, false, false] rfl rfl (any_of HT_.out (by kernel_rfl)) (fun _ _ _ h => h) (Or.inl ⟨by rfl, ?_⟩) ?_ ?_
      rotate_left
      ·
       intro w'
       go_simp
       with_reducible rfl
      rotate_left
      ·
       simp only [Act.put, List.setIfInBounds_toArray, List.set_cons_zero, List.set_cons_succ, i64_w, i32_w]
       rfl
      refine pure_ (i := 4) (N := some 40) (v := ?_) (a' := ?_) #[true, true, false, true, true, false, false, false, false, false, false, false, false] rfl rfl (any_of HT_.out (by kernel_rfl)) (fun _ _ _ h => h) (Or.inl ⟨by rfl, ?_⟩) ?_ ?_
      rotate_left
      ·
       intro w'
       go_simp
       with_reducible rfl
      rotate_left
      ·
       simp only [Act.put, List.setIfInBounds_toArray, List.set_cons_zero, List.set_cons_succ, i64_w, i32_w]
       rfl
      refine take_ (i := 2) (N := some 38) (v := ?_) (a' := ?_) #[true, true, true, true, true, false, false, false, false, false, false, false, false] rfl rfl (take_ofW HT_.out HW_.out (by kernel_rfl)) (fun _ _ _ h => h) (Or.inl ⟨by rfl, ?_⟩) hHeld ?_ ?_
      rotate_left
      ·
       rintro w' ⟨s0, s1, s2, s3, s4⟩
       go_simp
       with_reducible rfl
      rotate_left
      ·
       simp only [Act.put, List.setIfInBounds_toArray, List.set_cons_zero, List.set_cons_succ, i64_w, i32_w]
       rfl
      refine take_ (i := 5) (N := some 41) (v := ?_) (a' := ?_) #[true, true, true, true, true, true, false, false, false, false, false, false, false] rfl rfl (take_ofW HT_.out HW_.out (by kernel_rfl)) (fun _ _ _ h => h) (Or.inl ⟨by rfl, ?_⟩) hHeld ?_ ?_
      rotate_left
      ·
       rintro w' ⟨s0, s1, s2, s3, s4⟩
       go_simp
       with_reducible rfl
      rotate_left
      ·
       simp only [Act.put, List.setIfInBounds_toArray, List.set_cons_zero, List.set_cons_succ, i64_w, i32_w]
       rfl
      refine take_ (i := 6) (N := some 42) (v := ?_) (a' := ?_) #[true, true, true, true, true, true, true, false, false, false, false, false, false] rfl rfl (take_ofW HT_.out HW_.out (by kernel_rfl)) (fun _ _ _ h => h) (Or.inl ⟨by rfl, ?_⟩) hHeld ?_ ?_
      rotate_left
      ·
       rintro w' ⟨s0, s1, s2, s3, s4⟩
       go_simp
       with_reducible rfl
      rotate_left
      ·
       simp only [Act.put, List.setIfInBounds_toArray, List.set_cons_zero, List.set_cons_succ, i64_w, i32_w]
       rfl
      refine one_ (i := 7) (N := some 43) #[true, true, true, true, true, true, true, true, false, false, false, false, false] rfl rfl (one_of HT_.out (by kernel_rfl)) (by decide) (fun K hK => ?_)
      refine goes_ Tryd.func6 (by kernel_rfl) rfl #[.string a0, .int .i64 t528, .int .u8 (bt a0 t528)] (by rfl) rfl rfl zM ?_
      with_reducible refine (JJL_.calls kj2 a0 t528 (bt a0 t528) t540 true _ A36.out (HG.out.below (zB HB.out))).mono ?_
      rintro e w45 ⟨rfl, hb⟩
      refine ⟨_, rfl, ?_⟩
      have n0_ := Aside0.mk (Kd.V_below (zV HO532.out) hb)
      have n1_ := Aside0.mk (Kd.V_below (zV HO535.out) hb)
      have n2_ := Aside0.mk (blk_below (g := gb537) (o := .cells #[.int .i64 t527, .int .i64 t528, .int .i64 t529, .slice Ao41 t530.length co41, .slice Ao42 t533.length co42] 27 (0, 0)) (by (repeat refine zb ?_); exact BK537.out) hb)
      have n3_ := Aside0.mk (below_step (zB HB.out) hb)
      clear HO532
      clear HO535
      clear BK537
      clear HB
      have HO532 := n0_
      have HO535 := n1_
      have BK537 := n2_
      have HB := n3_
      clear n0_ n1_ n2_ n3_
      (try clear hb)
      (try clear hb2)
      (try clear hk)
      (try clear hi)
      refine hK.out _ _ ⟨(blk_cell BK537.out 0).trans rfl, (blk_cell BK537.out 1).trans rfl, (blk_cell BK537.out 2).trans rfl, (blk_cell BK537.out 3).trans rfl, (blk_cell BK537.out 4).trans rfl⟩ (fun hHeld => ?_)
      clear hK K
      refine norm_ (a' := ?_) ?_ ?_
      rotate_left
      ·
       show Act.put _ (some 43) _ = _
       simp only [Act.put, List.setIfInBounds_toArray, List.set_cons_zero, List.set_cons_succ, i64_w, i32_w]
       rfl
      refine pure_ (i := 8) (N := some 35) (v := ?_) (a' := ?_) #[true, true, true, true, true, true, true, true, true, false, false, false, false] rfl rfl (any_of HT_.out (by kernel_rfl)) (fun _ _ _ h => h) (Or.inl ⟨by rfl, ?_⟩) ?_ ?_
      rotate_left
      ·
       intro w'
       go_simp
       with_reducible rfl
      rotate_left
      ·
       simp only [Act.put, List.setIfInBounds_toArray, List.set_cons_zero, List.set_cons_succ, i64_w, i32_w]
       rfl
      refine pure_ (i := 9) (N := some 44) (v := ?_) (a' := ?_) #[true, true, true, true, true, true, true, true, true, true, false, false, false] rfl rfl (any_of HT_.out (by kernel_rfl)) (fun _ _ _ h => h) (Or.inl ⟨by rfl, ?_⟩) ?_ ?_
      rotate_left
      ·
       intro w'
       go_simp
       with_reducible rfl
      rotate_left
      ·
       simp only [Act.put, List.setIfInBounds_toArray, List.set_cons_zero, List.set_cons_succ, i64_w, i32_w]
       rfl
      refine pure_ (i := 10) (N := some 45) (v := ?_) (a' := ?_) #[true, true, true, true, true, true, true, true, true, true, true, false, false] rfl rfl (any_of HT_.out (by kernel_rfl)) (fun _ _ _ h => h) (Or.inl ⟨by rfl, ?_⟩) ?_ ?_
      rotate_left
      ·
       intro w'
       go_simp
       with_reducible rfl
      rotate_left
      ·
       simp only [Act.put, List.setIfInBounds_toArray, List.set_cons_zero, List.set_cons_succ, i64_w, i32_w]
       rfl
      refine pure_ (i := 11) (N := some 7) (v := ?_) (a' := ?_) #[true, true, true, true, true, true, true, true, true, true, true, true, false] rfl rfl (any_of HT_.out (by kernel_rfl)) (fun _ _ _ h => h) (Or.inl ⟨by rfl, ?_⟩) ?_ ?_
      rotate_left
      ·
       intro w'
       go_simp
       with_reducible rfl
      rotate_left
      ·
       simp only [Act.put, List.setIfInBounds_toArray, List.set_cons_zero, List.set_cons_succ, i64_w, i32_w]
       rfl
      refine pure_ (i := 12) (N := some 8) (v := ?_) (a' := ?_) #[true, true, true, true, true, true, true, true, true, true, true, true, true] rfl rfl (any_of HT_.out (by kernel_rfl)) (fun _ _ _ h => h) (Or.inl ⟨by rfl, ?_⟩) ?_ ?_
      rotate_left
      ·
       intro w'
       go_simp
       with_reducible rfl
      rotate_left
      ·
       simp only [Act.put, List.setIfInBounds_toArray, List.set_cons_zero, List.set_cons_succ, i64_w, i32_w]
       rfl
      refine done_ (done_of HT_.out (by kernel_rfl)) ?_
      have hcz46_0 : w45.cell? ⟨gb537, 0, none⟩ = some (.int .i64 t527) := (blk_cell BK537.out 0).trans rfl
      have hcz46_1 : w45.cell? ⟨gb537, 1, none⟩ = some (.int .i64 t528) := (blk_cell BK537.out 1).trans rfl
      have hcz46_2 : w45.cell? ⟨gb537, 2, none⟩ = some (.int .i64 t529) := (blk_cell BK537.out 2).trans rfl
      have hcz46_3 : w45.cell? ⟨gb537, 3, none⟩ = some (.slice Ao41 t530.length co41) := (blk_cell BK537.out 3).trans rfl
      have hcz46_4 : w45.cell? ⟨gb537, 4, none⟩ = some (.slice Ao42 t533.length co42) := (blk_cell BK537.out 4).trans rfl
      have hfz46_0 := blk_frozen BK537.out 0
      have hfz46_1 := blk_frozen BK537.out 1
      have hfz46_2 := blk_frozen BK537.out 2
      have hfz46_3 := blk_frozen BK537.out 3
      have hfz46_4 := blk_frozen BK537.out 4
      try go_wp2
      go_ret
      exact ⟨zX, zB HB.out⟩
     replace c37 := Bool.eq_false_iff.mpr c37
     subst c37
     rw [if_neg Bool.false_ne_true] at H
     obtain rfl := Option.some.inj H
     try go_wp2_with (first | ((with_reducible refine gate_callee (f := 5) rfl ?_); refine goesL_ (some 20) rfl rfl Tryd.func5 (by kernel_rfl) rfl #[.string a0, .slice A1 l1.length c1] rfl zM ?_; (with_reducible refine (jF_.calls kj2 a0 _ _ l1 t527 t528 t529 t530 t533 true _ ?side1 ?side2 A7.out).mono ?_); (case side1 => repeat (first | exact (Kd.C_below HR1.out HB.out) | (with_reducible refine Kd.C_alloc ?_ _) | (with_reducible refine Kd.C_drewN ?_ _) | (with_reducible refine Kd.C_drew ?_))); (case side2 => exact HC1.out); rintro e w47 ⟨v531, v534, rfl, ho0, ho1, hb⟩; refine ⟨_, rfl, ?_⟩; have n0_ := Aside0.mk (Kd.V_lower (Kd.V_mono (ok' := fun k_ => True) ho0 (fun k_ hk_ => trivial)) (below_size (zB HB.out))); have n1_ := Aside0.mk (Kd.V_lower (Kd.V_mono (ok' := fun k_ => True) ho1 (fun k_ hk_ => trivial)) (below_size (zB HB.out))); have n2_ := Aside0.mk (below_step (zB HB.out) hb); clear HB; have HO532 := n0_; have HO535 := n1_; have HB := n2_; clear n0_ n1_ n2_; clear hb; (try clear ho0); (try clear ho1)) | ((with_reducible refine gate_dst (N := 5) rfl ?_); (try (refine gate_guard (by rfl) ?_; dsimp only)); refine box_event ?hg (N := 5) ?hd (cs := #[.int .i64 0, .int .i64 0, .int .i64 0, .slice none 0 0, .slice none 0 0]) (t := 27) ?hr ?_; (case hd => rfl); (case hg => rfl); (case hr => first | (go_simp; done) | (go_simp; rfl)); intro gb537 hg w48 hbox hb; have n0_ := Aside0.mk (Kd.V_below (Kd.V_elderB (zV HO532.out) gb537 (Nat.le_of_eq hg.symm)) hb); have n1_ := Aside0.mk (Kd.V_below (Kd.V_elderB (zV HO535.out) gb537 (Nat.le_of_eq hg.symm)) hb); have n2_ := Aside0.mk (below_step (zB HB.out) hb); have n3_ := Aside0.mk (hbox); have n4_ := Aside0.mk ((by rw [hg]; exact (below_size (zB HB.out)) : w.heap.size ≤ gb537)); have n5_ := Aside0.mk ((by rw [hg]; exact (below_size (zB HB.out)) : w.heap.size ≤ gb537)); clear HO532 HO535 HB; have HO532 := n0_; have HO535 := n1_; have HB := n2_; have BK537 := n3_; have GW537 := n4_; have GE537 := n5_; clear n0_ n1_ n2_ n3_ n4_ n5_; clear hb hbox hg; have hcz49_0 : w48.cell? ⟨gb537, 0, none⟩ = some (.int .i64 0) := (blk_cell BK537.out 0).trans rfl; have hcz49_1 : w48.cell? ⟨gb537, 1, none⟩ = some (.int .i64 0) := (blk_cell BK537.out 1).trans rfl; have hcz49_2 : w48.cell? ⟨gb537, 2, none⟩ = some (.int .i64 0) := (blk_cell BK537.out 2).trans rfl; have hcz49_3 : w48.cell? ⟨gb537, 3, none⟩ = some (.slice none 0 0) := (blk_cell BK537.out 3).trans rfl; have hcz49_4 : w48.cell? ⟨gb537, 4, none⟩ = some (.slice none 0 0) := (blk_cell BK537.out 4).trans rfl; have hfz49_0 := blk_frozen BK537.out 0; have hfz49_1 := blk_frozen BK537.out 1; have hfz49_2 := blk_frozen BK537.out 2; have hfz49_3 := blk_frozen BK537.out 3; have hfz49_4 := blk_frozen BK537.out 4; obtain ⟨Ao50, co50, eo50⟩ := Kd.V_slice HO532.out; subst eo50; obtain ⟨Ao51, co51, eo51⟩ := Kd.V_slice HO535.out; subst eo51))
     have n0_ : Aside0 (Kd.V k43 43 (((((w48.setCell ⟨gb537, 0, none⟩ (.int .i64 t527)).setCell ⟨gb537, 1, none⟩ (.int .i64 t528)).setCell ⟨gb537, 2, none⟩ (.int .i64 t529)).setCell ⟨gb537, 3, none⟩ (.slice Ao50 t530.length co50)).setCell ⟨gb537, 4, none⟩ (.slice Ao51 t533.length co51)) w.heap.size (fun k_ => k_ ≠ gb537) (.slice Ao50 t530.length co50) t530) := ⟨by (with_reducible repeat (first | apply Kd.V_alloc | apply Kd.V_drewN | apply Kd.V_drew)); exact Kd.V_mono (Kd.V_far (p := ⟨gb537, 4, none⟩) (Kd.V_far (p := ⟨gb537, 3, none⟩) (Kd.V_far (p := ⟨gb537, 2, none⟩) (Kd.V_far (p := ⟨gb537, 1, none⟩) (Kd.V_far (p := ⟨gb537, 0, none⟩) (Kd.V_mono HO532.out (fun k_ hk => (⟨hk, hk.2⟩ : _ ∧ k_ ≠ gb537))) (fun _ hk => hk.2) (.int .i64 t527)) (fun _ hk => hk.2) (.int .i64 t528)) (fun _ hk => hk.2) (.int .i64 t529)) (fun _ hk => hk.2) (.slice Ao50 t530.length co50)) (fun _ hk => hk.2) (.slice Ao51 t533.length co51)) (fun _ hk => hk.1.2)⟩
     have n1_ : Aside0 (Kd.V k27 27 (((((w48.setCell ⟨gb537, 0, none⟩ (.int .i64 t527)).setCell ⟨gb537, 1, none⟩ (.int .i64 t528)).setCell ⟨gb537, 2, none⟩ (.int .i64 t529)).setCell ⟨gb537, 3, none⟩ (.slice Ao50 t530.length co50)).setCell ⟨gb537, 4, none⟩ (.slice Ao51 t533.length co51)) w.heap.size (fun k_ => k_ ≠ gb537) (.slice Ao51 t533.length co51) t533) := ⟨by (with_reducible repeat (first | apply Kd.V_alloc | apply Kd.V_drewN | apply Kd.V_drew)); exact Kd.V_mono (Kd.V_far (p := ⟨gb537, 4, none⟩) (Kd.V_far (p := ⟨gb537, 3, none⟩) (Kd.V_far (p := ⟨gb537, 2, none⟩) (Kd.V_far (p := ⟨gb537, 1, none⟩) (Kd.V_far (p := ⟨gb537, 0, none⟩) (Kd.V_mono HO535.out (fun k_ hk => (⟨hk, hk.2⟩ : _ ∧ k_ ≠ gb537))) (fun _ hk => hk.2) (.int .i64 t527)) (fun _ hk => hk.2) (.int .i64 t528)) (fun _ hk => hk.2) (.int .i64 t529)) (fun _ hk => hk.2) (.slice Ao50 t530.length co50)) (fun _ hk => hk.2) (.slice Ao51 t533.length co51)) (fun _ hk => hk.1.2)⟩
     have n2_ : Aside0 ((((((w48.setCell ⟨gb537, 0, none⟩ (.int .i64 t527)).setCell ⟨gb537, 1, none⟩ (.int .i64 t528)).setCell ⟨gb537, 2, none⟩ (.int .i64 t529)).setCell ⟨gb537, 3, none⟩ (.slice Ao50 t530.length co50)).setCell ⟨gb537, 4, none⟩ (.slice Ao51 t533.length co51)).heap[gb537]? = some (.cells #[.int .i64 t527, .int .i64 t528, .int .i64 t529, .slice Ao50 t530.length co50, .slice Ao51 t533.length co51] 27 (0, 0))) := ⟨by (repeat refine zb ?_); refine blk_put (cs := #[.int .i64 t527, .int .i64 t528, .int .i64 t529, .slice Ao50 t530.length co50, .slice none 0 0]) ?_ 4 _ rfl; (repeat refine zb ?_); refine blk_put (cs := #[.int .i64 t527, .int .i64 t528, .int .i64 t529, .slice none 0 0, .slice none 0 0]) ?_ 3 _ rfl; (repeat refine zb ?_); refine blk_put (cs := #[.int .i64 t527, .int .i64 t528, .int .i64 0, .slice none 0 0, .slice none 0 0]) ?_ 2 _ rfl; (repeat refine zb ?_); refine blk_put (cs := #[.int .i64 t527, .int .i64 0, .int .i64 0, .slice none 0 0, .slice none 0 0]) ?_ 1 _ rfl; (repeat refine zb ?_); refine blk_put (cs := #[.int .i64 0, .int .i64 0, .int .i64 0, .slice none 0 0, .slice none 0 0]) ?_ 0 _ rfl; (repeat refine zb ?_); exact BK537.out⟩
     have n3_ : Aside0 (Below w.heap.size w (((((w48.setCell ⟨gb537, 0, none⟩ (.int .i64 t527)).setCell ⟨gb537, 1, none⟩ (.int .i64 t528)).setCell ⟨gb537, 2, none⟩ (.int .i64 t529)).setCell ⟨gb537, 3, none⟩ (.slice Ao50 t530.length co50)).setCell ⟨gb537, 4, none⟩ (.slice Ao51 t533.length co51))) := ⟨zB HB.out⟩
     (try clear HO532)
     (try clear HO535)
     (try clear BK537)
     (try clear HB)
     generalize (((((w48.setCell ⟨gb537, 0, none⟩ (.int .i64 t527)).setCell ⟨gb537, 1, none⟩ (.int .i64 t528)).setCell ⟨gb537, 2, none⟩ (.int .i64 t529)).setCell ⟨gb537, 3, none⟩ (.slice Ao50 t530.length co50)).setCell ⟨gb537, 4, none⟩ (.slice Ao51 t533.length co51)) = w52 at n0_ n1_ n2_ n3_ ⊢
     have HO532 := n0_
     have HO535 := n1_
     have BK537 := n2_
     have HB := n3_
     clear n0_ n1_ n2_ n3_
     have n0_ := Aside0.mk (Kd.V_drew HO532.out)
     have n1_ := Aside0.mk (Kd.V_drew HO535.out)
     have n2_ := Aside0.mk (blk_drew BK537.out)
     have n3_ := Aside0.mk (below_drew1 HB.out)
     clear HO532
     clear HO535
     clear BK537
     clear HB
     have HO532 := n0_
     have HO535 := n1_
     have BK537 := n2_
     have HB := n3_
     clear n0_ n1_ n2_ n3_
     have p35 : 0 ≤ (t528 : Int) := dT
     have q35 : t528 < (a0.size : Int) := dT
     have hx35 := bt_at a0 t528
     replace p35 := eq_true p35
     replace q35 := eq_true q35
     refine start_ (n := 13) (S := fun w' => w'.cell? ⟨gb537, 0, none⟩ = some (.int .i64 t527) ∧ w'.cell? ⟨gb537, 1, none⟩ = some (.int .i64 t528) ∧ w'.cell? ⟨gb537, 2, none⟩ = some (.int .i64 t529) ∧ w'.cell? ⟨gb537, 3, none⟩ = some (.slice Ao50 t530.length co50) ∧ w'.cell? ⟨gb537, 4, none⟩ = some (.slice Ao51 t533.length co51)) (ds := []) #[false, false, false, false, false, false, false, false, false, false, false, false, false] (by kernel_rfl) rfl rfl ⟨(blk_cell BK537.out 0).trans rfl, (blk_cell BK537.out 1).trans rfl, (blk_cell BK537.out 2).trans rfl, (blk_cell BK537.out 3).trans rfl, (blk_cell BK537.out 4).trans rfl⟩ (fun hHeld => ?_); refine with_tabW laws_FnJpLength.tab6 laws_FnJpLength.bits6 (fun HT_ HW_ => ?_)
     generalize w52.drew = w53 at HO532 HO535 BK537 HB hHeld ⊢
     refine pure_ (i := 0) (N := some 36) (v := ?_) (a' := ?_) #[true, false, false, false, false, false, false, false, false, false, false, false, false] rfl rfl (any_of HT_.out (by kernel_rfl)) (fun _ _ _ h => h) (Or.inl ⟨by rfl, ?_⟩) ?_ ?_
     rotate_left
     ·
      intro w'
      go_simp
      with_reducible rfl
     rotate_left
     ·
      simp only [Act.put, List.setIfInBounds_toArray, List.set_cons_zero, List.set_cons_succ, i64_w, i32_w]
      rfl
     refine pure_ (i := 1) (N := some 37) (v := ?_) (a' := ?_) #[true, true, false, false, false, false, false, false, false, false, false, false, false] rfl rfl (any_of HT_.out (by kernel_rfl)) (fun _ _ _ h => h) (Or.inl ⟨by rfl, ?_⟩) ?_ ?_
     rotate_left
     ·
      intro w'
      go_simp
      with_reducible rfl
     rotate_left
     ·
      simp only [Act.put, List.setIfInBounds_toArray, List.set_cons_zero, List.set_cons_succ, i64_w, i32_w]
      rfl
     refine pure_ (i := 3) (N := some 39) (v := ?_) (a' := ?_) #[true, true, false, true, false, false, false, false, false, false, false, false, false] rfl rfl (any_of HT_.out (by kernel_rfl)) (fun _ _ _ h => h) (Or.inl ⟨by rfl, ?_⟩) ?_ ?_
     rotate_left
     ·
      intro w'
      go_simp
      with_reducible rfl
     rotate_left
     ·
      simp only [Act.put, List.setIfInBounds_toArray, List.set_cons_zero, List.set_cons_succ, i64_w, i32_w]
      rfl
     refine pure_ (i := 4) (N := some 40) (v := ?_) (a' := ?_) #[true, true, false, true, true, false, false, false, false, false, false, false, false] rfl rfl (any_of HT_.out (by kernel_rfl)) (fun _ _ _ h => h) (Or.inl ⟨by rfl, ?_⟩) ?_ ?_
     rotate_left
     ·
      intro w'
      go_simp
      with_reducible rfl
     rotate_left
     ·
      simp only [Act.put, List.setIfInBounds_toArray, List.set_cons_zero, List.set_cons_succ, i64_w, i32_w]
      rfl
     refine take_ (i := 2) (N := some 38) (v := ?_) (a' := ?_) #[true, true, true, true, true, false, false, false, false, false, false, false, false] rfl rfl (take_ofW HT_.out HW_.out (by kernel_rfl)) (fun _ _ _ h => h) (Or.inl ⟨by rfl, ?_⟩) hHeld ?_ ?_
     rotate_left
     ·
      rintro w' ⟨s0, s1, s2, s3, s4⟩
      go_simp
      with_reducible rfl
     rotate_left
     ·
      simp only [Act.put, List.setIfInBounds_toArray, List.set_cons_zero, List.set_cons_succ, i64_w, i32_w]
      rfl
     refine take_ (i := 5) (N := some 41) (v := ?_) (a' := ?_) #[true, true, true, true, true, true, false, false, false, false, false, false, false] rfl rfl (take_ofW HT_.out HW_.out (by kernel_rfl)) (fun _ _ _ h => h) (Or.inl ⟨by rfl, ?_⟩) hHeld ?_ ?_
     rotate_left
     ·
      rintro w' ⟨s0, s1, s2, s3, s4⟩
      go_simp
      with_reducible rfl
     rotate_left
     ·
      simp only [Act.put, List.setIfInBounds_toArray, List.set_cons_zero, List.set_cons_succ, i64_w, i32_w]
      rfl
     refine take_ (i := 6) (N := some 42) (v := ?_) (a' := ?_) #[true, true, true, true, true, true, true, false, false, false, false, false, false] rfl rfl (take_ofW HT_.out HW_.out (by kernel_rfl)) (fun _ _ _ h => h) (Or.inl ⟨by rfl, ?_⟩) hHeld ?_ ?_
     rotate_left
     ·
      rintro w' ⟨s0, s1, s2, s3, s4⟩
      go_simp
      with_reducible rfl
     rotate_left
     ·
      simp only [Act.put, List.setIfInBounds_toArray, List.set_cons_zero, List.set_cons_succ, i64_w, i32_w]
      rfl
     refine one_ (i := 7) (N := some 43) #[true, true, true, true, true, true, true, true, false, false, false, false, false] rfl rfl (one_of HT_.out (by kernel_rfl)) (by decide) (fun K hK => ?_)
     refine goes_ Tryd.func6 (by kernel_rfl) rfl #[.string a0, .int .i64 t528, .int .u8 (bt a0 t528)] (by rfl) rfl rfl zM ?_
     with_reducible refine (JJL_.calls kj2 a0 t528 (bt a0 t528) t540 false _ A36.out (HG.out.below (zB HB.out))).mono ?_
     rintro e w54 ⟨rfl, hb⟩
     refine ⟨_, rfl, ?_⟩
     have n0_ := Aside0.mk (Kd.V_below (zV HO532.out) hb)
     have n1_ := Aside0.mk (Kd.V_below (zV HO535.out) hb)
     have n2_ := Aside0.mk (blk_below (g := gb537) (o := .cells #[.int .i64 t527, .int .i64 t528, .int .i64 t529, .slice Ao50 t530.length co50, .slice Ao51 t533.length co51] 27 (0, 0)) (by (repeat refine zb ?_); exact BK537.out) hb)
     have n3_ := Aside0.mk (below_step (zB HB.out) hb)
     clear HO532
     clear HO535
     clear BK537
     clear HB
     have HO532 := n0_
     have HO535 := n1_
     have BK537 := n2_
     have HB := n3_
     clear n0_ n1_ n2_ n3_
     (try clear hb)
     (try clear hb2)
     (try clear hk)
     (try clear hi)
     refine hK.out _ _ ⟨(blk_cell BK537.out 0).trans rfl, (blk_cell BK537.out 1).trans rfl, (blk_cell BK537.out 2).trans rfl, (blk_cell BK537.out 3).trans rfl, (blk_cell BK537.out 4).trans rfl⟩ (fun hHeld => ?_)
     clear hK K
     refine norm_ (a' := ?_) ?_ ?_
     rotate_left
     ·
      show Act.put _ (some 43) _ = _
      simp only [Act.put, List.setIfInBounds_toArray, List.set_cons_zero, List.set_cons_succ, i64_w, i32_w]
      rfl
     refine pure_ (i := 8) (N := some 35) (v := ?_) (a' := ?_) #[true, true, true, true, true, true, true, true, true, false, false, false, false] rfl rfl (any_of HT_.out (by kernel_rfl)) (fun _ _ _ h => h) (Or.inl ⟨by rfl, ?_⟩) ?_ ?_
     rotate_left
     ·
      intro w'
      go_simp
      with_reducible rfl
     rotate_left
     ·
      simp only [Act.put, List.setIfInBounds_toArray, List.set_cons_zero, List.set_cons_succ, i64_w, i32_w]
      rfl
     refine pure_ (i := 9) (N := some 44) (v := ?_) (a' := ?_) #[true, true, true, true, true, true, true, true, true, true, false, false, false] rfl rfl (any_of HT_.out (by kernel_rfl)) (fun _ _ _ h => h) (Or.inl ⟨by rfl, ?_⟩) ?_ ?_
     rotate_left
     ·
      intro w'
      go_simp
      with_reducible rfl
     rotate_left
     ·
      simp only [Act.put, List.setIfInBounds_toArray, List.set_cons_zero, List.set_cons_succ, i64_w, i32_w]
      rfl
     refine pure_ (i := 10) (N := some 45) (v := ?_) (a' := ?_) #[true, true, true, true, true, true, true, true, true, true, true, false, false] rfl rfl (any_of HT_.out (by kernel_rfl)) (fun _ _ _ h => h) (Or.inl ⟨by rfl, ?_⟩) ?_ ?_
     rotate_left
     ·
      intro w'
      go_simp
      with_reducible rfl
     rotate_left
     ·
      simp only [Act.put, List.setIfInBounds_toArray, List.set_cons_zero, List.set_cons_succ, i64_w, i32_w]
      rfl
     refine pure_ (i := 11) (N := some 7) (v := ?_) (a' := ?_) #[true, true, true, true, true, true, true, true, true, true, true, true, false] rfl rfl (any_of HT_.out (by kernel_rfl)) (fun _ _ _ h => h) (Or.inl ⟨by rfl, ?_⟩) ?_ ?_
     rotate_left
     ·
      intro w'
      go_simp
      with_reducible rfl
     rotate_left
     ·
      simp only [Act.put, List.setIfInBounds_toArray, List.set_cons_zero, List.set_cons_succ, i64_w, i32_w]
      rfl
     refine pure_ (i := 12) (N := some 8) (v := ?_) (a' := ?_) #[true, true, true, true, true, true, true, true, true, true, true, true, true] rfl rfl (any_of HT_.out (by kernel_rfl)) (fun _ _ _ h => h) (Or.inl ⟨by rfl, ?_⟩) ?_ ?_
     rotate_left
     ·
      intro w'
      go_simp
      with_reducible rfl
     rotate_left
     ·
      simp only [Act.put, List.setIfInBounds_toArray, List.set_cons_zero, List.set_cons_succ, i64_w, i32_w]
      rfl
     refine done_ (done_of HT_.out (by kernel_rfl)) ?_
     try go_wp2
     go_ret
     exact ⟨zX, zB HB.out⟩
    rw [if_neg c34] at H
    exact absurd H (by simp)
   rw [if_neg c33] at H
   exact absurd H (by simp)
  rw [if_neg c32] at H
  have c32b0 : (t527 == 6) = false := beq_eq_false_iff_ne.mpr c32
  have c32b1 : (t527 != 6) = true := bne_iff_ne.mpr c32
  obtain rfl := Option.some.inj H
  go_wp2_with (first | ((with_reducible refine gate_callee (f := 5) rfl ?_); refine goesL_ (some 20) rfl rfl Tryd.func5 (by kernel_rfl) rfl #[.string a0, .slice A1 l1.length c1] rfl zM ?_; (with_reducible refine (jF_.calls kj2 a0 _ _ l1 t527 t528 t529 t530 t533 true _ ?side1 ?side2 A7.out).mono ?_); (case side1 => repeat (first | exact (Kd.C_below HR1.out HB.out) | (with_reducible refine Kd.C_alloc ?_ _) | (with_reducible refine Kd.C_drewN ?_ _) | (with_reducible refine Kd.C_drew ?_))); (case side2 => exact HC1.out); rintro e w55 ⟨v531, v534, rfl, ho0, ho1, hb⟩; refine ⟨_, rfl, ?_⟩; have n0_ := Aside0.mk (Kd.V_lower (Kd.V_mono (ok' := fun k_ => True) ho0 (fun k_ hk_ => trivial)) (below_size (zB HB.out))); have n1_ := Aside0.mk (Kd.V_lower (Kd.V_mono (ok' := fun k_ => True) ho1 (fun k_ hk_ => trivial)) (below_size (zB HB.out))); have n2_ := Aside0.mk (below_step (zB HB.out) hb); clear HB; have HO532 := n0_; have HO535 := n1_; have HB := n2_; clear n0_ n1_ n2_; clear hb; (try clear ho0); (try clear ho1)) | ((with_reducible refine gate_dst (N := 5) rfl ?_); (try (refine gate_guard (by rfl) ?_; dsimp only)); refine box_event ?hg (N := 5) ?hd (cs := #[.int .i64 0, .int .i64 0, .int .i64 0, .slice none 0 0, .slice none 0 0]) (t := 27) ?hr ?_; (case hd => rfl); (case hg => rfl); (case hr => first | (go_simp; done) | (go_simp; rfl)); intro gb537 hg w56 hbox hb; have n0_ := Aside0.mk (Kd.V_below (Kd.V_elderB (zV HO532.out) gb537 (Nat.le_of_eq hg.symm)) hb); have n1_ := Aside0.mk (Kd.V_below (Kd.V_elderB (zV HO535.out) gb537 (Nat.le_of_eq hg.symm)) hb); have n2_ := Aside0.mk (below_step (zB HB.out) hb); have n3_ := Aside0.mk (hbox); have n4_ := Aside0.mk ((by rw [hg]; exact (below_size (zB HB.out)) : w.heap.size ≤ gb537)); have n5_ := Aside0.mk ((by rw [hg]; exact (below_size (zB HB.out)) : w.heap.size ≤ gb537)); clear HO532 HO535 HB; have HO532 := n0_; have HO535 := n1_; have HB := n2_; have BK537 := n3_; have GW537 := n4_; have GE537 := n5_; clear n0_ n1_ n2_ n3_ n4_ n5_; clear hb hbox hg; have hcz57_0 : w56.cell? ⟨gb537, 0, none⟩ = some (.int .i64 0) := (blk_cell BK537.out 0).trans rfl; have hcz57_1 : w56.cell? ⟨gb537, 1, none⟩ = some (.int .i64 0) := (blk_cell BK537.out 1).trans rfl; have hcz57_2 : w56.cell? ⟨gb537, 2, none⟩ = some (.int .i64 0) := (blk_cell BK537.out 2).trans rfl; have hcz57_3 : w56.cell? ⟨gb537, 3, none⟩ = some (.slice none 0 0) := (blk_cell BK537.out 3).trans rfl; have hcz57_4 : w56.cell? ⟨gb537, 4, none⟩ = some (.slice none 0 0) := (blk_cell BK537.out 4).trans rfl; have hfz57_0 := blk_frozen BK537.out 0; have hfz57_1 := blk_frozen BK537.out 1; have hfz57_2 := blk_frozen BK537.out 2; have hfz57_3 := blk_frozen BK537.out 3; have hfz57_4 := blk_frozen BK537.out 4; obtain ⟨Ao58, co58, eo58⟩ := Kd.V_slice HO532.out; subst eo58; obtain ⟨Ao59, co59, eo59⟩ := Kd.V_slice HO535.out; subst eo59))
  go_ret
  exact ⟨zX, zB HB.out⟩
 replace c8 := Bool.eq_false_iff.mpr c8
 subst c8
 rw [if_neg Bool.false_ne_true] at H
 obtain rfl := Option.some.inj H
 go_wp2_with (first | ((with_reducible refine gate_callee (f := 5) rfl ?_); refine goesL_ (some 20) rfl rfl Tryd.func5 (by kernel_rfl) rfl #[.string a0, .slice A1 l1.length c1] rfl zM ?_; (with_reducible refine (jF_.calls kj2 a0 _ _ l1 t527 t528 t529 t530 t533 false _ ?side1 ?side2 A7.out).mono ?_); (case side1 => repeat (first | exact (Kd.C_below HR1.out HB.out) | (with_reducible refine Kd.C_alloc ?_ _) | (with_reducible refine Kd.C_drewN ?_ _) | (with_reducible refine Kd.C_drew ?_))); (case side2 => exact HC1.out); rintro e w60 ⟨v531, v534, rfl, ho0, ho1, hb⟩; refine ⟨_, rfl, ?_⟩; have n0_ := Aside0.mk (Kd.V_lower (Kd.V_mono (ok' := fun k_ => True) ho0 (fun k_ hk_ => trivial)) (below_size (zB HB.out))); have n1_ := Aside0.mk (Kd.V_lower (Kd.V_mono (ok' := fun k_ => True) ho1 (fun k_ hk_ => trivial)) (below_size (zB HB.out))); have n2_ := Aside0.mk (below_step (zB HB.out) hb); clear HB; have HO532 := n0_; have HO535 := n1_; have HB := n2_; clear n0_ n1_ n2_; clear hb; (try clear ho0); (try clear ho1)) | ((with_reducible refine gate_dst (N := 5) rfl ?_); (try (refine gate_guard (by rfl) ?_; dsimp only)); refine box_event ?hg (N := 5) ?hd (cs := #[.int .i64 0, .int .i64 0, .int .i64 0, .slice none 0 0, .slice none 0 0]) (t := 27) ?hr ?_; (case hd => rfl); (case hg => rfl); (case hr => first | (go_simp; done) | (go_simp; rfl)); intro gb537 hg w61 hbox hb; have n0_ := Aside0.mk (Kd.V_below (Kd.V_elderB (zV HO532.out) gb537 (Nat.le_of_eq hg.symm)) hb); have n1_ := Aside0.mk (Kd.V_below (Kd.V_elderB (zV HO535.out) gb537 (Nat.le_of_eq hg.symm)) hb); have n2_ := Aside0.mk (below_step (zB HB.out) hb); have n3_ := Aside0.mk (hbox); have n4_ := Aside0.mk ((by rw [hg]; exact (below_size (zB HB.out)) : w.heap.size ≤ gb537)); have n5_ := Aside0.mk ((by rw [hg]; exact (below_size (zB HB.out)) : w.heap.size ≤ gb537)); clear HO532 HO535 HB; have HO532 := n0_; have HO535 := n1_; have HB := n2_; have BK537 := n3_; have GW537 := n4_; have GE537 := n5_; clear n0_ n1_ n2_ n3_ n4_ n5_; clear hb hbox hg; have hcz62_0 : w61.cell? ⟨gb537, 0, none⟩ = some (.int .i64 0) := (blk_cell BK537.out 0).trans rfl; have hcz62_1 : w61.cell? ⟨gb537, 1, none⟩ = some (.int .i64 0) := (blk_cell BK537.out 1).trans rfl; have hcz62_2 : w61.cell? ⟨gb537, 2, none⟩ = some (.int .i64 0) := (blk_cell BK537.out 2).trans rfl; have hcz62_3 : w61.cell? ⟨gb537, 3, none⟩ = some (.slice none 0 0) := (blk_cell BK537.out 3).trans rfl; have hcz62_4 : w61.cell? ⟨gb537, 4, none⟩ = some (.slice none 0 0) := (blk_cell BK537.out 4).trans rfl; have hfz62_0 := blk_frozen BK537.out 0; have hfz62_1 := blk_frozen BK537.out 1; have hfz62_2 := blk_frozen BK537.out 2; have hfz62_3 := blk_frozen BK537.out 3; have hfz62_4 := blk_frozen BK537.out 4; obtain ⟨Ao63, co63, eo63⟩ := Kd.V_slice HO532.out; subst eo63; obtain ⟨Ao64, co64, eo64⟩ := Kd.V_slice HO535.out; subst eo64))
 go_ret
 exact ⟨zX, zB HB.out⟩
/-- THE ONE PURE STATEMENT of laws_FnJpLength: yours. -/
noncomputable def laws_FnJpLength.Pure : Prop := ∀ (a0 : ByteArray) (l1 : List ByteArray), a0.size ≤ 140737488351232 → l1.length ≤ maxLen → (∀ x ∈ l1, x.size ≤ maxLen) → ∃ k, laws_FnJpLength.f k a0 l1 = some true
theorem laws_FnJpLength.walk (P : laws_FnJpLength.Pure) (a0 : ByteArray) (a1 : Option Addr) (len1 cap1 : Nat) (z1 : List ByteArray) (w : World) (w0 : a0.size ≤ 140737488351232) (w1 : (a1 = none ∧ len1 = 0 ∧ cap1 = 0 ∧ z1 = []) ∨ ∃ x, a1 = some x ∧ len1 ≤ cap1 ∧ cap1 ≤ maxLen ∧ z1.length = cap1 ∧ (∀ i, i < z1.length → w.cell? (x.add i) = some (.string (z1.getD i ByteArray.empty))) ∧ ∀ s ∈ z1, s.size ≤ maxLen) (hG : Glob w) :
    Calls Tryd.prog 3 #[.string a0, .slice a1 len1 cap1] w fun e w' => e = .returned (.bool true) ∧ Below w.heap.size w w' := by
  obtain ⟨l1, rfl, hr1, hm1, hw1, hc1⟩ := strs_row w1
  obtain ⟨k, h⟩ := P a0 l1 w0 hm1 hw1
  refine (laws_FnJpLength.calls k a0 _ _ l1 true w hr1 hc1 h hG).mono ?_
  rintro e w' ⟨rfl, hd⟩
  exact ⟨rfl, hd⟩
end Go.Proofs.YtmneeighbkcadaaDoor.PFnJpLength