/- what the Go functions that the law FnPrSpecPlain reaches compute, each as a plain function, with the proof that the Go code computes just that; no condition beside those that each theorem states. -/
import Derived.Test.YtnmbpleneddkhaaPFnPrSpecPlainx0
namespace Go.Proofs.Ytnmbpleneddkhaa.PFnPrSpecPlain
open Go.RowKit Go.Proofs.YtnmbpleneddkhaaW.PrintWords Go.Proofs.YtnmbpleneddkhaaW.PrintLast Go.Proofs.YtnmbpleneddkhaaW.PrintMore
set_option linter.unusedVariables false
set_option linter.unusedSimpArgs false
mutual
def pretty_spec.l0 : Nat → List Int → List Int → Int → Option (List Int)
  | 0, _, _, _ => none
  | k + 1, x0, x1, x5 => if x5 < (x0.length : Int) then (if 0 ≤ x5 then (if (rd x0 x5) = 47 then (if x5 < (wrap64 ((x0.length : Int) - 1)) then (if 0 ≤ (wrap64 (x5 + 1)) then (if (wrap64 (x5 + 1)) < (x0.length : Int) then (if (rd x0 (wrap64 (x5 + 1))) = 47 then ((some (([32, 32] : List Int) : List Int)).bind fun y300 => (if x1.length + y300.length < 140737488355328 then (pretty_spec.l1 k x0 (x1 ++ y300) (wrap64 (x5 + 2))) else (none))) else (if (rd x0 (wrap64 (x5 + 1))) = 42 then ((some (([32, 32] : List Int) : List Int)).bind fun y324 => (if x1.length + y324.length < 140737488355328 then (pretty_spec.l2 k x0 (x1 ++ y324) (wrap64 (x5 + 2))) else (none))) else (pretty_spec.j4 k x0 x1 x5))) else (none)) else (none)) else (pretty_spec.j4 k x0 x1 x5)) else (pretty_spec.j4 k x0 x1 x5)) else (none)) else (some x1)
def pretty_spec.j4 : Nat → List Int → List Int → Int → Option (List Int)
  | 0, _, _, _ => none
  | k + 1, x0, x1, x5 => if 0 ≤ x5 then (if x5 < (x0.length : Int) then (if x1.length < 140737488355328 then ((some (x1 ++ [rd x0 x5] : List Int)).bind fun y357 => (if (rd x0 x5) = 34 then (pretty_spec.l3 k x0 y357 (wrap64 (x5 + 1))) else (if (rd x0 x5) = 125 then (pretty_spec.j7 k x0 y357 x5 true) else (pretty_spec.j7 k x0 y357 x5 ((rd x0 x5) == 93))))) else (none)) else (none)) else (none)
def pretty_spec.l3 : Nat → List Int → List Int → Int → Option (List Int)
  | 0, _, _, _ => none
  | k + 1, x0, x1, x5 => if x5 < (x0.length : Int) then (if 0 ≤ x5 then (if x1.length < 140737488355328 then ((some (x1 ++ [rd x0 x5] : List Int)).bind fun y362 => (if (rd x0 x5) = 34 then (pretty_spec.l4 k x0 y362 x5 (wrap64 (x5 - 1))) else (pretty_spec.l3 k x0 y362 (wrap64 (x5 + 1))))) else (none)) else (none)) else (pretty_spec.l0 k x0 x1 (wrap64 (x5 + 1)))
def pretty_spec.l4 : Nat → List Int → List Int → Int → Int → Option (List Int)
  | 0, _, _, _, _ => none
  | k + 1, x0, x1, x5, x6 => if 0 ≤ x6 then (if x6 < (x0.length : Int) then (if (rd x0 x6) = 92 then (pretty_spec.l4 k x0 x1 x5 (wrap64 (x6 - 1))) else (if (Int.tmod (wrap64 (x6 - x5)) 2) = 0 then (pretty_spec.l3 k x0 x1 (wrap64 (x5 + 1))) else (pretty_spec.l0 k x0 x1 (wrap64 (x5 + 1))))) else (none)) else (none)
def pretty_spec.j7 : Nat → List Int → List Int → Int → Bool → Option (List Int)
  | 0, _, _, _, _ => none
  | k + 1, x0, x1, x5, x195 => if x195 = true then (pretty_spec.l5 k x0 x1 x5 (wrap64 ((x1.length : Int) - 2))) else (pretty_spec.l0 k x0 x1 (wrap64 (x5 + 1)))
def pretty_spec.l5 : Nat → List Int → List Int → Int → Int → Option (List Int)
  | 0, _, _, _, _ => none
  | k + 1, x0, x1, x5, x7 => if x7 ≥ 0 then (if 0 ≤ x7 then (if x7 < (x1.length : Int) then (if (rd x1 x7) ≤ 32 then (pretty_spec.l5 k x0 x1 x5 (wrap64 (x7 - 1))) else (if (rd x1 x7) = 44 then (pretty_spec.l0 k x0 (x1.set (x7 : Int).toNat 32) (wrap64 (x5 + 1))) else (pretty_spec.l0 k x0 x1 (wrap64 (x5 + 1))))) else (none)) else (none)) else (pretty_spec.l0 k x0 x1 (wrap64 (x5 + 1)))
def pretty_spec.l1 : Nat → List Int → List Int → Int → Option (List Int)
  | 0, _, _, _ => none
  | k + 1, x0, x1, x5 => if x5 < (x0.length : Int) then (if 0 ≤ x5 then (if (rd x0 x5) = 10 then (if x1.length < 140737488355328 then (pretty_spec.l0 k x0 (x1 ++ [10]) (wrap64 (x5 + 1))) else (none)) else (if (rd x0 x5) = 9 then (if x1.length < 140737488355328 then (pretty_spec.l1 k x0 (x1 ++ [rd x0 x5]) (wrap64 (x5 + 1))) else (none)) else (if (rd x0 x5) = 13 then (if x1.length < 140737488355328 then (pretty_spec.l1 k x0 (x1 ++ [rd x0 x5]) (wrap64 (x5 + 1))) else (none)) else (if x1.length < 140737488355328 then (pretty_spec.l1 k x0 (x1 ++ [32]) (wrap64 (x5 + 1))) else (none))))) else (none)) else (pretty_spec.l0 k x0 x1 (wrap64 (x5 + 1)))
def pretty_spec.l2 : Nat → List Int → List Int → Int → Option (List Int)
  | 0, _, _, _ => none
  | k + 1, x0, x1, x5 => if x5 < (wrap64 ((x0.length : Int) - 1)) then (if 0 ≤ x5 then (if x5 < (x0.length : Int) then (if (rd x0 x5) = 42 then (if 0 ≤ (wrap64 (x5 + 1)) then (if (wrap64 (x5 + 1)) < (x0.length : Int) then (pretty_spec.j3 k x0 x1 x5 ((rd x0 (wrap64 (x5 + 1))) == 47)) else (none)) else (none)) else (pretty_spec.j3 k x0 x1 x5 false)) else (none)) else (none)) else (pretty_spec.l0 k x0 x1 (wrap64 (x5 + 1)))
def pretty_spec.j3 : Nat → List Int → List Int → Int → Bool → Option (List Int)
  | 0, _, _, _, _ => none
  | k + 1, x0, x1, x5, x103 => if x103 = true then ((some (([32, 32] : List Int) : List Int)).bind fun y332 => (if x1.length + y332.length < 140737488355328 then (pretty_spec.l0 k x0 (x1 ++ y332) (wrap64 ((wrap64 (x5 + 1)) + 1))) else (none))) else (if 0 ≤ x5 then (if x5 < (x0.length : Int) then (if (rd x0 x5) = 10 then (if x1.length < 140737488355328 then (pretty_spec.l2 k x0 (x1 ++ [rd x0 x5]) (wrap64 (x5 + 1))) else (none)) else (if (rd x0 x5) = 9 then (if x1.length < 140737488355328 then (pretty_spec.l2 k x0 (x1 ++ [rd x0 x5]) (wrap64 (x5 + 1))) else (none)) else (if (rd x0 x5) = 13 then (if x1.length < 140737488355328 then (pretty_spec.l2 k x0 (x1 ++ [rd x0 x5]) (wrap64 (x5 + 1))) else (none)) else (if x1.length < 140737488355328 then (pretty_spec.l2 k x0 (x1 ++ [32]) (wrap64 (x5 + 1))) else (none))))) else (none)) else (none))
end
def pretty_spec.f (k : Nat) (l0 : List Int) (l1 : List Int) : Option (List Int) := if 0 ≤ (l1.length : Int) then (pretty_spec.l0 k l0 (l1.take (0 : Int).toNat) 0) else (none)
set_option maxHeartbeats 8000000 in
set_option maxRecDepth 100000 in
theorem pretty_spec.calls (k : Nat) (A0 : Option Addr) (c0 : Nat) (l0 : List Int) (P1_ : Nat → Prop) (u9000_ : Value) (l1 : List Int) (r : List Int) (w0 w : World) (hB : Below w0.heap.size w0 w) (hr0 : ∀ W_, Kept w W_ (fun k_ => P1_ k_) → Kd.C (Kd.int .u8) W_ A0 l0.length l0) (hc0 : l0.length ≤ c0) (ho1 : Kd.R (Kd.int .u8) 5 w w0.heap.size P1_ u9000_ l1) (h : pretty_spec.f k l0 l1 = some r) :
    Calls Try.prog 44 #[.slice A0 l0.length c0, u9000_] w fun e w' => ∃ v0_ : Value, e = .returned (v0_) ∧ Kd.R (Kd.int .u8) 5 w' w0.heap.size (fun k_ => (P1_ k_ ∨ w.heap.size ≤ k_)) v0_ r ∧ Below w0.heap.size w0 w' ∧ Kept w w' (fun k_ => P1_ k_) := by
 have HR0 := Aside0.mk hr0
 have HC0 := Aside0.mk hc0
 clear hr0 hc0
 have HO1 := Aside0.mk (show Kd.R (Kd.int .u8) 5 w w0.heap.size (fun k_ => (P1_ k_ ∨ w.heap.size ≤ k_)) u9000_ l1 from Kd.R_mono ho1 (fun k_ hk => (.inl hk)))
 have HK := Aside0.mk (Kept.refl w (fun k_ => P1_ k_))
 have HW0 := Aside0.mk hB.size
 have HB := Aside0.mk hB
 clear hB
 have H : (if 0 ≤ (l1.length : Int) then (pretty_spec.l0 k l0 (l1.take (0 : Int).toNat) 0) else (none)) = some r := h
 clear h
 by_cases c3 : 0 ≤ (l1.length : Int)
 ·
  rw [if_pos c3] at H
  have c3b0 := eq_true c3
  have c3b1 : decide (0 ≤ (l1.length : Int)) = true := decide_eq_true c3
  clear c3
  obtain ⟨y295, hy295⟩ : ∃ y_ : List Int, y_ = (l1.take (0 : Int).toNat) := ⟨_, rfl⟩
  replace H : (pretty_spec.l0 k l0 y295 0) = some r := by first | (rw [hy295]; with_reducible exact H) | (have H2_ := (Option.bind_some _ _).symm.trans H; rw [hy295]; with_reducible exact H2_) | (have H2_ := (Option.bind_some _ _).symm.trans H; with_reducible exact H2_) | with_reducible exact H | (rw [hy295]; exact H) | exact H
  have Ny295 := Aside0.mk hy295
  clear hy295
  have H' := Aside0.mk H
  clear H
  obtain ⟨Ao4, co4, eo4⟩ := Kd.R_slice HO1.out
  subst eo4
  have q5 : (0 : Int) ≤ ((l1.length : Int) : Int) := of_decide_eq_true (by first | (with_reducible assumption) | assumption)
  obtain ⟨i05, hi05, _, hsz5, _⟩ := info_parts info5
  have hcut5 := cut_to (P := Try.prog) 48 5 .i64 Try.underlying48 hi05 Ao4 l1.length co4 0 (by omega) q5 (Kd.R_reads' HO1.out).2.1
  have hr5 := Kd.R_take (m := (0 : Int).toNat) HO1.out (by omega)
  have hy5 : y295.length = (0 : Int).toNat := (by rw [Ny295.out, List.length_take]; omega)
  rw [← Ny295.out] at hr5
  rw [← hy5] at hr5 hcut5
  clear hy5 hi05 hsz5 HO1
  have HO297 := Aside0.mk hr5
  clear hr5
  replace q5 := eq_true q5
  go_enter Try.func44, Try.ntmps44
  go_wp2
  try simp only [Act.put, List.setIfInBounds_toArray, List.set_cons_succ, List.set_cons_zero]
  go_loopg [1, 5] k (fun kq v1 v5 w' => ∃ (x1_1 : List Int) (x5_1 : Int), v5 = .int .i64 x5_1 ∧ Aside0 (pretty_spec.l0 kq l0 x1_1 x5_1 = some r) ∧ Aside0 (kq ≤ k) ∧ Aside0 (Kd.R (Kd.int .u8) 5 w' w0.heap.size (fun k_ => (P1_ k_ ∨ w.heap.size ≤ k_)) v1 x1_1) ∧ Aside0 (Kept w w' (fun k_ => P1_ k_)) ∧ Aside0 (Below w0.heap.size w0 w'))
  case atStart => exact ⟨(y295), (0), (by first | rfl | (simp; done) | (simp [nil_ne_, nil_eq_]; done) | (simp [*]; done)), H', ⟨Nat.le_refl _⟩, ⟨by (with_reducible repeat (first | apply Kd.R_alloc | apply Kd.R_drewN | apply Kd.R_drew)); exact HO297.out⟩, ⟨by repeat (first | (with_reducible first | exact HK.out | apply Kept.alloc | apply Kept.drewN | apply Kept.drew) | exact HK.out)⟩, ⟨by repeat (first | (with_reducible first | exact HB.out | apply below_alloc | apply pw_below_drewN | apply below_drew1) | exact HB.out)⟩⟩
  case round =>
   clear H'
   try clear p2
   try clear c3
   try clear c3b0
   try clear c3b1
   try clear c4
   try clear q5
   try clear q5
   obtain ⟨x1_1, x5_1, rfl, HA, HK1, HO_1, HK, HB⟩ := hrel
   rcases gk with _ | k1
   · exact absurd HA.out (by simp [pretty_spec.l0])
   have H := HA.out
   clear HA
   simp only [pretty_spec.l0] at H
   by_cases c6 : x5_1 < (l0.length : Int)
   ·
    rw [if_pos c6] at H
    have c6b0 : decide (x5_1 < (l0.length : Int)) = true := decide_eq_true c6
    clear c6
    by_cases c7 : 0 ≤ x5_1
    ·
     rw [if_pos c7] at H
     have c7b0 : decide (0 ≤ x5_1) = true := decide_eq_true c7
     clear c7
     have HC8 := Aside0.mk H
     clear H
     have p298 : 0 ≤ (x5_1 : Int) := of_decide_eq_true (by first | (with_reducible assumption) | assumption)
     have q298 : x5_1 < (l0.length : Int) := of_decide_eq_true (by first | (with_reducible assumption) | assumption)
     obtain ⟨ad298, e298, hx298_0⟩ := Kd.at_int (Kd.C_kept_now HR0.out HK.out) x5_1 p298 q298
     cases e298
     replace p298 := eq_true p298
     replace q298 := eq_true q298
     go_upto_if 20 with (fail)
     go_cut [1, 5] (fun v1 v5 wc => ∃ (kq : Nat) (x1_7 : List Int) (x5_7 : Int), v5 = .int .i64 x5_7 ∧ Aside0 (pretty_spec.j4 kq l0 x1_7 x5_7 = some r) ∧ Aside0 (kq ≤ k1) ∧ Aside0 (Kd.R (Kd.int .u8) 5 wc w0.heap.size (fun k_ => (P1_ k_ ∨ w.heap.size ≤ k_)) v1 x1_7) ∧ Aside0 (Kept w wc (fun k_ => P1_ k_)) ∧ Aside0 (Below w0.heap.size w0 wc))
     case first => as_aux_lemma =>
      have H := HC8.out
      clear HC8
      by_cases c9 : (rd l0 x5_1) = 47
      ·
       rw [if_pos c9] at H
       have c9b0 : ((rd l0 x5_1) == 47) = true := beq_iff_eq.mpr c9
       have c9b1 : ((rd l0 x5_1) != 47) = false := bne_eq_false_iff_eq.mpr c9
       clear c9
       (first | rw [c9b0] | (simp only [i64_w, i32_w]; rw [c9b0]) | rw [c9b1] | skip)
       by_cases c10 : x5_1 < (wrap64 ((l0.length : Int) - 1))
       ·
        rw [if_pos c10] at H
        have c10b0 : decide (x5_1 < (wrap64 ((l0.length : Int) - 1))) = true := decide_eq_true c10
        clear c10
        obtain ⟨ji11, hji11⟩ : ∃ j_ : Int, (wrap64 (x5_1 + 1)) = j_ := ⟨_, rfl⟩
        replace H : (if 0 ≤ (ji11) then (if (ji11) < (l0.length : Int) then (if (rd l0 (ji11)) = 47 then ((some (([32, 32] : List Int) : List Int)).bind fun y300 => (if x1_1.length + y300.length < 140737488355328 then (pretty_spec.l1 k1 l0 (x1_1 ++ y300) (wrap64 (x5_1 + 2))) else (none))) else (if (rd l0 (ji11)) = 42 then ((some (([32, 32] : List Int) : List Int)).bind fun y324 => (if x1_1.length + y324.length < 140737488355328 then (pretty_spec.l2 k1 l0 (x1_1 ++ y324) (wrap64 (x5_1 + 2))) else (none))) else (pretty_spec.j4 k1 l0 x1_1 x5_1))) else (none)) else (none)) = some r := by first | (rw [hji11] at H; exact H) | (simp only [hji11] at H ⊢; exact H)
        have hji11w : (IntKind.i64.wrap (x5_1 + 1)) = ji11 := (i64_w _).trans hji11
        by_cases c12 : 0 ≤ (ji11)
        ·
         rw [if_pos c12] at H
         have c12b0 : decide (0 ≤ (ji11)) = true := decide_eq_true c12
         clear c12
         by_cases c13 : (ji11) < (l0.length : Int)
         ·
          rw [if_pos c13] at H
          have c13b0 : decide ((ji11) < (l0.length : Int)) = true := decide_eq_true c13
          clear c13
          by_cases c14 : (rd l0 (ji11)) = 47
          ·
           rw [if_pos c14] at H
           have c14b0 : ((rd l0 (ji11)) == 47) = true := beq_iff_eq.mpr c14
           have c14b1 : ((rd l0 (ji11)) != 47) = false := bne_eq_false_iff_eq.mpr c14
           clear c14
           obtain ⟨y300, hy300⟩ : ∃ y_ : List Int, y_ = (([32, 32] : List Int)) := ⟨_, rfl⟩
           replace H : (if x1_1.length + y300.length < 140737488355328 then (pretty_spec.l1 k1 l0 (x1_1 ++ y300) (wrap64 (x5_1 + 2))) else (none)) = some r := by first | (rw [hy300]; with_reducible exact H) | (have H2_ := (Option.bind_some _ _).symm.trans H; rw [hy300]; with_reducible exact H2_) | (have H2_ := (Option.bind_some _ _).symm.trans H; with_reducible exact H2_) | with_reducible exact H | (rw [hy300]; exact H) | exact H
           have Ny300 := Aside0.mk hy300
           clear hy300
           by_cases c15 : x1_1.length + y300.length < 140737488355328
           ·
            rw [if_pos c15] at H
            have LMc15 := Aside0.mk c15
            clear c15
            obtain ⟨y303, hy303⟩ : ∃ y_ : List Int, y_ = (x1_1 ++ y300) := ⟨_, rfl⟩
            replace H : (pretty_spec.l1 k1 l0 y303 (wrap64 (x5_1 + 2))) = some r := by first | (rw [hy303]; with_reducible exact H) | (have H2_ := (Option.bind_some _ _).symm.trans H; rw [hy303]; with_reducible exact H2_) | (have H2_ := (Option.bind_some _ _).symm.trans H; with_reducible exact H2_) | with_reducible exact H | (rw [hy303]; exact H) | exact H
            have Ny303 := Aside0.mk hy303
            clear hy303
            have H' := Aside0.mk H
            clear H
            have p299 : 0 ≤ ((ji11) : Int) := of_decide_eq_true (by first | (with_reducible assumption) | assumption)
            have q299 : (ji11) < (l0.length : Int) := of_decide_eq_true (by first | (with_reducible assumption) | assumption)
            obtain ⟨ad299, e299, hx299_0⟩ := Kd.at_int (Kd.C_kept_now HR0.out HK.out) (ji11) p299 q299
            obtain rfl : ad298 = ad299 := (by injection e299)
            replace p299 := eq_true p299
            replace q299 := eq_true q299
            go_wp2_with (first | ((with_reducible refine gate_dst (N := 33) rfl ?_); refine Kd.R_lit (Kd.int .u8) _ 5 ?hg (N := 33) ?hd (xs := ([32, 32] : List Int)) (inner := [.int .u8 32, .int .u8 32]) (ok := fun _ => True) (okp := fun _ => True) ?hr ?hp (fun _ hk => hk) trivial (Below.refl _ _) (Nat.le_refl _) (by simp) ?_; (case hd => rfl); (case hg => rfl); (case hr => first | (go_simp; done) | (go_simp; rfl)); (case hp => exact (Reps.one (show Kd.M (Kd.int .u8) _ _ _ 32 [.int .u8 32] from rfl) (Reps.one (show Kd.M (Kd.int .u8) _ _ _ 32 [.int .u8 32] from rfl) (Reps.none _ _)))); intro v301 w16 ho17 hb hg_ hnew_; clear hg_ hnew_; (first | rw [← Ny300.out] at ho17 | (simp only [Int.reduceToNat] at ho17; rw [← Ny300.out] at ho17)); have n0_ := Aside0.mk (Kd.R_elder' (by (with_reducible repeat (first | apply Kd.R_alloc | apply Kd.R_drewN | apply Kd.R_drew)); exact HO_1.out) (Kd.R_base ho17) hb); have n1_ := Aside0.mk (Kd.R_lower (Kd.R_new' (Kd.R_newM (M := fun k_ => (P1_ k_ ∨ w.heap.size ≤ k_)) ho17 (by first | exact HK.out.1 | exact (show Kept w _ (fun k_ => P1_ k_) from by repeat (first | (with_reducible first | exact HK.out | apply Kept.alloc | apply Kept.drewN | apply Kept.drew) | exact HK.out)).1) (fun k_ h_ => .inr h_)) (Kd.R_lt (by (with_reducible repeat (first | apply Kd.R_alloc | apply Kd.R_drewN | apply Kd.R_drew)); exact HO_1.out))) (below_size (by repeat (first | (with_reducible first | exact HB.out | apply below_alloc | apply pw_below_drewN | apply below_drew1) | exact HB.out)))); have n2_ := Aside0.mk (Kept.below (S := (fun k_ => P1_ k_)) (by repeat (first | (with_reducible first | exact HK.out | apply Kept.alloc | apply Kept.drewN | apply Kept.drew) | exact HK.out)) hb); have n3_ := Aside0.mk (below_step (by repeat (first | (with_reducible first | exact HB.out | apply below_alloc | apply pw_below_drewN | apply below_drew1) | exact HB.out)) hb); clear HO_1; clear HK; clear HB; have HO_1 := n0_; have HO302 := n1_; have HK := n2_; have HB := n3_; clear n0_ n1_ n2_ n3_; clear hb ho17; obtain ⟨Ao19, co19, eo19⟩ := Kd.R_slice HO302.out; subst eo19) | ((with_reducible refine gate_builtin (b := .append) (xs := #[.tmp 32, .tmp 33]) rfl ?_); at_builtin; refine Kd.R_append_rows (Kd.int .u8) (w0 := w0) w0.heap.size rfl (.tmp 32) (.tmp 33) 48 5 (.int .u8 0) 1 rfl Try.underlying48 info5 rfl (by decide) (by omega) u1 x1_1 y300 _ _ _ (fun k_ => (P1_ k_ ∨ w.heap.size ≤ k_) ∧ some k_ ≠ (.slice Ao19 y300.length co19 : Value).ownBlock) (fun _ => False) rfl rfl ?aO ?aR (fun _ _ h => h) (fun _ h => h.elim) ?aF ?aB ?aS ?aL ?_; (case aR => repeat (first | exact (Kd.R_reads' HO302.out).2.2 | (with_reducible refine Kd.C_alloc ?_ _) | (with_reducible refine Kd.C_drewN ?_ _) | (with_reducible refine Kd.C_drew ?_))); (case aB => exact (by repeat (first | (with_reducible first | exact HB.out | apply below_alloc | apply pw_below_drewN | apply below_drew1) | exact HB.out))); (case aF => exact (fun k_ hk => ⟨(.inr (Nat.le_trans (by first | exact HK.out.1 | exact (show Kept w _ (fun k_ => P1_ k_) from by repeat (first | (with_reducible first | exact HK.out | apply Kept.alloc | apply Kept.drewN | apply Kept.drew) | exact HK.out)).1) hk)), Kd.fresh' (Kd.R_lt (by (with_reducible repeat (first | apply Kd.R_alloc | apply Kd.R_drewN | apply Kd.R_drew)); exact HO302.out)) k_ hk⟩)); (case aO => exact (by (with_reducible repeat (first | apply Kd.R_alloc | apply Kd.R_drewN | apply Kd.R_drew)); exact HO_1.out)); (case aS => exact (below_size (by repeat (first | (with_reducible first | exact HB.out | apply below_alloc | apply pw_below_drewN | apply below_drew1) | exact HB.out)))); (case aL => have := LMc15.out; omega); intro v304 w18 ho hb hg hat; rw [← Ny303.out] at ho; have n0_ := Aside0.mk (Kd.R_after (ok := (fun k_ => (P1_ k_ ∨ w.heap.size ≤ k_))) (by (with_reducible repeat (first | apply Kd.R_alloc | apply Kd.R_drewN | apply Kd.R_drew)); exact Kd.R_mono HO302.out (fun _ hk => ⟨hk.1.1, hk.2⟩)) hg hat); have n1_ := Aside0.mk (hb); have n2_ := Aside0.mk (Kept.of_grown (S := (fun k_ => P1_ k_)) hg (by repeat (first | (with_reducible first | exact HK.out | apply Kept.alloc | apply Kept.drewN | apply Kept.drew) | exact HK.out)) (fun k_ e_ => (HO_1.out.1 k_ e_).1)); have n3_ := Aside0.mk (ho); clear HO302; clear HB; clear HK; clear HO_1; have HO302 := n0_; have HB := n1_; have HK := n2_; have HO305 := n3_; clear n0_ n1_ n2_ n3_; clear ho hb hg hat))
            try simp only [Act.put, List.setIfInBounds_toArray, List.set_cons_succ, List.set_cons_zero]
            go_loopg [1, 5] k1 (fun kq v1 v5 w' => ∃ (x1_2 : List Int) (x5_2 : Int), v5 = .int .i64 x5_2 ∧ Aside0 (pretty_spec.l1 kq l0 x1_2 x5_2 = some r) ∧ Aside0 (kq ≤ k1) ∧ Aside0 (Kd.R (Kd.int .u8) 5 w' w0.heap.size (fun k_ => (P1_ k_ ∨ w.heap.size ≤ k_)) v1 x1_2) ∧ Aside0 (Kept w w' (fun k_ => P1_ k_)) ∧ Aside0 (Below w0.heap.size w0 w'))
            case atStart => exact ⟨(y303), (wrap64 (x5_1 + 2)), (by first | rfl | (simp; done) | (simp [nil_ne_, nil_eq_]; done) | (simp [*]; done)), H', ⟨Nat.le_refl _⟩, ⟨by (with_reducible repeat (first | apply Kd.R_alloc | apply Kd.R_drewN | apply Kd.R_drew)); exact Kd.R_mono HO305.out (fun _ hk => hk.1)⟩, ⟨by repeat (first | (with_reducible first | exact HK.out | apply Kept.alloc | apply Kept.drewN | apply Kept.drew) | exact HK.out)⟩, ⟨by repeat (first | (with_reducible first | exact HB.out | apply below_alloc | apply pw_below_drewN | apply below_drew1) | exact HB.out)⟩⟩
            case round =>
             clear H'
             try clear c1
             try clear p2
             try clear q2
             try clear hx2
             try clear c3
             try clear c3b0
             try clear c3b1
             try clear c4
             try clear q5
             try clear c6
             try clear c6b0
             try clear p6
             try clear c7
             try clear c7b0
             try clear c9
             try clear c9b0
             try clear c9b1
             try clear c10
             try clear c10b0
             try clear c12
             try clear c12b0
             try clear c13
             try clear c13b0
             try clear c14
             try clear c14b0
             try clear c14b1
             try clear c15
             try clear hx298_0
             try clear hx299_0
             try clear p2
             try clear p298
             try clear p299
             try clear q298
             try clear q299
             try clear q5
             obtain ⟨x1_2, x5_2, rfl, HA, HK2, HO_1, HK, HB⟩ := hrel
             rcases gk with _ | k2
             · exact absurd HA.out (by simp [pretty_spec.l1])
             have H := HA.out
             clear HA
             simp only [pretty_spec.l1] at H
             by_cases c20 : x5_2 < (l0.length : Int)
             ·
              rw [if_pos c20] at H
              have c20b0 : decide (x5_2 < (l0.length : Int)) = true := decide_eq_true c20
              clear c20
              by_cases c21 : 0 ≤ x5_2
              ·
               rw [if_pos c21] at H
               have c21b0 : decide (0 ≤ x5_2) = true := decide_eq_true c21
               clear c21
               by_cases c22 : (rd l0 x5_2) = 10
               ·
                rw [if_pos c22] at H
                have c22b0 : ((rd l0 x5_2) == 10) = true := beq_iff_eq.mpr c22
                have c22b1 : ((rd l0 x5_2) != 10) = false := bne_eq_false_iff_eq.mpr c22
                clear c22
                by_cases c23 : x1_2.length < 140737488355328
                ·
                 rw [if_pos c23] at H
                 have LMc23 := Aside0.mk c23
                 clear c23
                 obtain ⟨y307, hy307⟩ : ∃ y_ : List Int, y_ = (x1_2 ++ [10]) := ⟨_, rfl⟩
                 replace H : (pretty_spec.l0 k2 l0 y307 (wrap64 (x5_2 + 1))) = some r := by first | (rw [hy307]; with_reducible exact H) | (have H2_ := (Option.bind_some _ _).symm.trans H; rw [hy307]; with_reducible exact H2_) | (have H2_ := (Option.bind_some _ _).symm.trans H; with_reducible exact H2_) | with_reducible exact H | (rw [hy307]; exact H) | exact H
                 have Ny307 := Aside0.mk hy307
                 clear hy307
                 as_aux_lemma =>
                  have H' := Aside0.mk H
                  clear H
                  have p306 : 0 ≤ (x5_2 : Int) := of_decide_eq_true (by first | (with_reducible assumption) | assumption)
                  have q306 : x5_2 < (l0.length : Int) := of_decide_eq_true (by first | (with_reducible assumption) | assumption)
                  obtain ⟨ad306, e306, hx306_0⟩ := Kd.at_int (Kd.C_kept_now HR0.out HK.out) x5_2 p306 q306
                  obtain rfl : ad298 = ad306 := (by injection e306)
                  replace p306 := eq_true p306
                  replace q306 := eq_true q306
                  go_wp2_with (first | ((with_reducible refine gate_builtin (b := .append) (xs := #[.tmp 48, .tmp 49]) rfl ?_); at_builtin; refine Kd.R_append (Kd.int .u8) (w0 := w0) w0.heap.size rfl (.tmp 48) (.tmp 49) 48 5 (.int .u8 0) 1 rfl Try.underlying48 info5 rfl (by decide) (by omega) u1 x1_2 10 [.int .u8 10] (fun k_ => (P1_ k_ ∨ w.heap.size ≤ k_)) (fun _ => False) rfl rfl ?aP (fun _ hk => hk.elim) ?aF ?aO ?aB ?aS ?aL ?_; (case aP => exact rfl); (case aB => exact (by repeat (first | (with_reducible first | exact HB.out | apply below_alloc | apply pw_below_drewN | apply below_drew1) | exact HB.out))); (case aF => exact (fun k_ hk => (.inr (Nat.le_trans (by first | exact HK.out.1 | exact (show Kept w _ (fun k_ => P1_ k_) from by repeat (first | (with_reducible first | exact HK.out | apply Kept.alloc | apply Kept.drewN | apply Kept.drew) | exact HK.out)).1) hk)))); (case aO => exact (by (with_reducible repeat (first | apply Kd.R_alloc | apply Kd.R_drewN | apply Kd.R_drew)); exact HO_1.out)); (case aS => exact (below_size (by repeat (first | (with_reducible first | exact HB.out | apply below_alloc | apply pw_below_drewN | apply below_drew1) | exact HB.out)))); (case aL => have := LMc23.out; omega); intro v308 w24 ho hb hg hat; rw [← Ny307.out] at ho; have n0_ := Aside0.mk (hb); have n1_ := Aside0.mk (Kept.of_grown (S := (fun k_ => P1_ k_)) hg (by repeat (first | (with_reducible first | exact HK.out | apply Kept.alloc | apply Kept.drewN | apply Kept.drew) | exact HK.out)) (fun k_ e_ => (HO_1.out.1 k_ e_))); have n2_ := Aside0.mk (ho); clear HB; clear HK; clear HO_1; have HB := n0_; have HK := n1_; have HO309 := n2_; clear n0_ n1_ n2_; clear ho hb hg hat))
                  go_roundg k2
                  case measure => have := HK1.out; have := HK2.out; omega
                  case rel => exact ⟨(y307), (wrap64 (x5_2 + 1)), (by first | rfl | (simp; done) | (simp [nil_ne_, nil_eq_]; done) | (simp [*]; done)), (by first | exact H' | (rw [hji11]; exact H') | (simp only [hji11]; exact H') | (simp only [hji11] at H' ⊢; exact H')), ⟨by have := HK1.out; have := HK2.out; omega⟩, ⟨by (with_reducible repeat (first | apply Kd.R_alloc | apply Kd.R_drewN | apply Kd.R_drew)); exact HO309.out⟩, ⟨by repeat (first | (with_reducible first | exact HK.out | apply Kept.alloc | apply Kept.drewN | apply Kept.drew) | exact HK.out)⟩, ⟨by repeat (first | (with_reducible first | exact HB.out | apply below_alloc | apply pw_below_drewN | apply below_drew1) | exact HB.out)⟩⟩
                rw [if_neg c23] at H
                exact absurd H (by simp)
               rw [if_neg c22] at H
               have c22b0 : ((rd l0 x5_2) == 10) = false := beq_eq_false_iff_ne.mpr c22
               have c22b1 : ((rd l0 x5_2) != 10) = true := bne_iff_ne.mpr c22
               by_cases c25 : (rd l0 x5_2) = 9
               ·
                rw [if_pos c25] at H
                have c25b0 : ((rd l0 x5_2) == 9) = true := beq_iff_eq.mpr c25
                have c25b1 : ((rd l0 x5_2) != 9) = false := bne_eq_false_iff_eq.mpr c25
                clear c25
                by_cases c26 : x1_2.length < 140737488355328
                ·
                 rw [if_pos c26] at H
                 have LMc26 := Aside0.mk c26
                 clear c26
                 obtain ⟨y312, hy312⟩ : ∃ y_ : List Int, y_ = (x1_2 ++ [rd l0 x5_2]) := ⟨_, rfl⟩
                 replace H : (pretty_spec.l1 k2 l0 y312 (wrap64 (x5_2 + 1))) = some r := by first | (rw [hy312]; with_reducible exact H) | (have H2_ := (Option.bind_some _ _).symm.trans H; rw [hy312]; with_reducible exact H2_) | (have H2_ := (Option.bind_some _ _).symm.trans H; with_reducible exact H2_) | with_reducible exact H | (rw [hy312]; exact H) | exact H
                 have Ny312 := Aside0.mk hy312
                 clear hy312
                 as_aux_lemma =>
                  have H' := Aside0.mk H
                  clear H
                  have p306 : 0 ≤ (x5_2 : Int) := of_decide_eq_true (by first | (with_reducible assumption) | assumption)
                  have q306 : x5_2 < (l0.length : Int) := of_decide_eq_true (by first | (with_reducible assumption) | assumption)
                  obtain ⟨ad306, e306, hx306_0⟩ := Kd.at_int (Kd.C_kept_now HR0.out HK.out) x5_2 p306 q306
                  obtain rfl : ad298 = ad306 := (by injection e306)
                  replace p306 := eq_true p306
                  replace q306 := eq_true q306
                  have p310 : 0 ≤ (x5_2 : Int) := of_decide_eq_true (by first | (with_reducible assumption) | assumption)
                  have q310 : x5_2 < (l0.length : Int) := of_decide_eq_true (by first | (with_reducible assumption) | assumption)
                  obtain ⟨ad310, e310, hx310_0⟩ := Kd.at_int (Kd.C_kept_now HR0.out HK.out) x5_2 p310 q310
                  obtain rfl : ad298 = ad310 := (by injection e310)
                  replace p310 := eq_true p310
                  replace q310 := eq_true q310
                  have p311 : 0 ≤ (x5_2 : Int) := of_decide_eq_true (by first | (with_reducible assumption) | assumption)
                  have q311 : x5_2 < (l0.length : Int) := of_decide_eq_true (by first | (with_reducible assumption) | assumption)
                  obtain ⟨ad311, e311, hx311_0⟩ := Kd.at_int (Kd.C_kept_now HR0.out HK.out) x5_2 p311 q311
                  obtain rfl : ad298 = ad311 := (by injection e311)
                  replace p311 := eq_true p311
                  replace q311 := eq_true q311
                  go_wp2_with (first | ((with_reducible refine gate_builtin (b := .append) (xs := #[.tmp 63, .tmp 68]) rfl ?_); at_builtin; refine Kd.R_append (Kd.int .u8) (w0 := w0) w0.heap.size rfl (.tmp 63) (.tmp 68) 48 5 (.int .u8 0) 1 rfl Try.underlying48 info5 rfl (by decide) (by omega) u1 x1_2 (rd l0 x5_2) [.int .u8 (rd l0 x5_2)] (fun k_ => (P1_ k_ ∨ w.heap.size ≤ k_)) (fun _ => False) rfl rfl ?aP (fun _ hk => hk.elim) ?aF ?aO ?aB ?aS ?aL ?_; (case aP => exact rfl); (case aB => exact (by repeat (first | (with_reducible first | exact HB.out | apply below_alloc | apply pw_below_drewN | apply below_drew1) | exact HB.out))); (case aF => exact (fun k_ hk => (.inr (Nat.le_trans (by first | exact HK.out.1 | exact (show Kept w _ (fun k_ => P1_ k_) from by repeat (first | (with_reducible first | exact HK.out | apply Kept.alloc | apply Kept.drewN | apply Kept.drew) | exact HK.out)).1) hk)))); (case aO => exact (by (with_reducible repeat (first | apply Kd.R_alloc | apply Kd.R_drewN | apply Kd.R_drew)); exact HO_1.out)); (case aS => exact (below_size (by repeat (first | (with_reducible first | exact HB.out | apply below_alloc | apply pw_below_drewN | apply below_drew1) | exact HB.out)))); (case aL => have := LMc26.out; omega); intro v313 w27 ho hb hg hat; rw [← Ny312.out] at ho; have n0_ := Aside0.mk (hb); have n1_ := Aside0.mk (Kept.of_grown (S := (fun k_ => P1_ k_)) hg (by repeat (first | (with_reducible first | exact HK.out | apply Kept.alloc | apply Kept.drewN | apply Kept.drew) | exact HK.out)) (fun k_ e_ => (HO_1.out.1 k_ e_))); have n2_ := Aside0.mk (ho); clear HB; clear HK; clear HO_1; have HB := n0_; have HK := n1_; have HO314 := n2_; clear n0_ n1_ n2_; clear ho hb hg hat))
                  go_roundg k2
                  case measure => have := HK1.out; have := HK2.out; omega
                  case rel => exact ⟨(y312), (wrap64 (x5_2 + 1)), (by first | rfl | (simp; done) | (simp [nil_ne_, nil_eq_]; done) | (simp [*]; done)), (by first | exact H' | (rw [hji11]; exact H') | (simp only [hji11]; exact H') | (simp only [hji11] at H' ⊢; exact H')), ⟨by have := HK1.out; have := HK2.out; omega⟩, ⟨by (with_reducible repeat (first | apply Kd.R_alloc | apply Kd.R_drewN | apply Kd.R_drew)); exact HO314.out⟩, ⟨by repeat (first | (with_reducible first | exact HK.out | apply Kept.alloc | apply Kept.drewN | apply Kept.drew) | exact HK.out)⟩, ⟨by repeat (first | (with_reducible first | exact HB.out | apply below_alloc | apply pw_below_drewN | apply below_drew1) | exact HB.out)⟩⟩
                rw [if_neg c26] at H
                exact absurd H (by simp)
               rw [if_neg c25] at H
               have c25b0 : ((rd l0 x5_2) == 9) = false := beq_eq_false_iff_ne.mpr c25
               have c25b1 : ((rd l0 x5_2) != 9) = true := bne_iff_ne.mpr c25
               by_cases c28 : (rd l0 x5_2) = 13
               ·
                rw [if_pos c28] at H
                have c28b0 : ((rd l0 x5_2) == 13) = true := beq_iff_eq.mpr c28
                have c28b1 : ((rd l0 x5_2) != 13) = false := bne_eq_false_iff_eq.mpr c28
                clear c28
                by_cases c29 : x1_2.length < 140737488355328
                ·
                 rw [if_pos c29] at H
                 have LMc29 := Aside0.mk c29
                 clear c29
                 obtain ⟨y317, hy317⟩ : ∃ y_ : List Int, y_ = (x1_2 ++ [rd l0 x5_2]) := ⟨_, rfl⟩
                 replace H : (pretty_spec.l1 k2 l0 y317 (wrap64 (x5_2 + 1))) = some r := by first | (rw [hy317]; with_reducible exact H) | (have H2_ := (Option.bind_some _ _).symm.trans H; rw [hy317]; with_reducible exact H2_) | (have H2_ := (Option.bind_some _ _).symm.trans H; with_reducible exact H2_) | with_reducible exact H | (rw [hy317]; exact H) | exact H
                 have Ny317 := Aside0.mk hy317
                 clear hy317
                 as_aux_lemma =>
                  have H' := Aside0.mk H
                  clear H
                  have p306 : 0 ≤ (x5_2 : Int) := of_decide_eq_true (by first | (with_reducible assumption) | assumption)
                  have q306 : x5_2 < (l0.length : Int) := of_decide_eq_true (by first | (with_reducible assumption) | assumption)
                  obtain ⟨ad306, e306, hx306_0⟩ := Kd.at_int (Kd.C_kept_now HR0.out HK.out) x5_2 p306 q306
                  obtain rfl : ad298 = ad306 := (by injection e306)
                  replace p306 := eq_true p306
                  replace q306 := eq_true q306
                  have p310 : 0 ≤ (x5_2 : Int) := of_decide_eq_true (by first | (with_reducible assumption) | assumption)
                  have q310 : x5_2 < (l0.length : Int) := of_decide_eq_true (by first | (with_reducible assumption) | assumption)
                  obtain ⟨ad310, e310, hx310_0⟩ := Kd.at_int (Kd.C_kept_now HR0.out HK.out) x5_2 p310 q310
                  obtain rfl : ad298 = ad310 := (by injection e310)
                  replace p310 := eq_true p310
                  replace q310 := eq_true q310
                  have p315 : 0 ≤ (x5_2 : Int) := of_decide_eq_true (by first | (with_reducible assumption) | assumption)
                  have q315 : x5_2 < (l0.length : Int) := of_decide_eq_true (by first | (with_reducible assumption) | assumption)
                  obtain ⟨ad315, e315, hx315_0⟩ := Kd.at_int (Kd.C_kept_now HR0.out HK.out) x5_2 p315 q315
                  obtain rfl : ad298 = ad315 := (by injection e315)
                  replace p315 := eq_true p315
                  replace q315 := eq_true q315
                  have p316 : 0 ≤ (x5_2 : Int) := of_decide_eq_true (by first | (with_reducible assumption) | assumption)
                  have q316 : x5_2 < (l0.length : Int) := of_decide_eq_true (by first | (with_reducible assumption) | assumption)
                  obtain ⟨ad316, e316, hx316_0⟩ := Kd.at_int (Kd.C_kept_now HR0.out HK.out) x5_2 p316 q316
                  obtain rfl : ad298 = ad316 := (by injection e316)
                  replace p316 := eq_true p316
                  replace q316 := eq_true q316
                  go_wp2_with (first | ((with_reducible refine gate_builtin (b := .append) (xs := #[.tmp 63, .tmp 68]) rfl ?_); at_builtin; refine Kd.R_append (Kd.int .u8) (w0 := w0) w0.heap.size rfl (.tmp 63) (.tmp 68) 48 5 (.int .u8 0) 1 rfl Try.underlying48 info5 rfl (by decide) (by omega) u1 x1_2 (rd l0 x5_2) [.int .u8 (rd l0 x5_2)] (fun k_ => (P1_ k_ ∨ w.heap.size ≤ k_)) (fun _ => False) rfl rfl ?aP (fun _ hk => hk.elim) ?aF ?aO ?aB ?aS ?aL ?_; (case aP => exact rfl); (case aB => exact (by repeat (first | (with_reducible first | exact HB.out | apply below_alloc | apply pw_below_drewN | apply below_drew1) | exact HB.out))); (case aF => exact (fun k_ hk => (.inr (Nat.le_trans (by first | exact HK.out.1 | exact (show Kept w _ (fun k_ => P1_ k_) from by repeat (first | (with_reducible first | exact HK.out | apply Kept.alloc | apply Kept.drewN | apply Kept.drew) | exact HK.out)).1) hk)))); (case aO => exact (by (with_reducible repeat (first | apply Kd.R_alloc | apply Kd.R_drewN | apply Kd.R_drew)); exact HO_1.out)); (case aS => exact (below_size (by repeat (first | (with_reducible first | exact HB.out | apply below_alloc | apply pw_below_drewN | apply below_drew1) | exact HB.out)))); (case aL => have := LMc29.out; omega); intro v318 w30 ho hb hg hat; rw [← Ny317.out] at ho; have n0_ := Aside0.mk (hb); have n1_ := Aside0.mk (Kept.of_grown (S := (fun k_ => P1_ k_)) hg (by repeat (first | (with_reducible first | exact HK.out | apply Kept.alloc | apply Kept.drewN | apply Kept.drew) | exact HK.out)) (fun k_ e_ => (HO_1.out.1 k_ e_))); have n2_ := Aside0.mk (ho); clear HB; clear HK; clear HO_1; have HB := n0_; have HK := n1_; have HO319 := n2_; clear n0_ n1_ n2_; clear ho hb hg hat))
                  go_roundg k2
                  case measure => have := HK1.out; have := HK2.out; omega
                  case rel => exact ⟨(y317), (wrap64 (x5_2 + 1)), (by first | rfl | (simp; done) | (simp [nil_ne_, nil_eq_]; done) | (simp [*]; done)), (by first | exact H' | (rw [hji11]; exact H') | (simp only [hji11]; exact H') | (simp only [hji11] at H' ⊢; exact H')), ⟨by have := HK1.out; have := HK2.out; omega⟩, ⟨by (with_reducible repeat (first | apply Kd.R_alloc | apply Kd.R_drewN | apply Kd.R_drew)); exact HO319.out⟩, ⟨by repeat (first | (with_reducible first | exact HK.out | apply Kept.alloc | apply Kept.drewN | apply Kept.drew) | exact HK.out)⟩, ⟨by repeat (first | (with_reducible first | exact HB.out | apply below_alloc | apply pw_below_drewN | apply below_drew1) | exact HB.out)⟩⟩
                rw [if_neg c29] at H
                exact absurd H (by simp)
               rw [if_neg c28] at H
               have c28b0 : ((rd l0 x5_2) == 13) = false := beq_eq_false_iff_ne.mpr c28
               have c28b1 : ((rd l0 x5_2) != 13) = true := bne_iff_ne.mpr c28
               by_cases c31 : x1_2.length < 140737488355328
               ·
                rw [if_pos c31] at H
                have LMc31 := Aside0.mk c31
                clear c31
                obtain ⟨y320, hy320⟩ : ∃ y_ : List Int, y_ = (x1_2 ++ [32]) := ⟨_, rfl⟩
                replace H : (pretty_spec.l1 k2 l0 y320 (wrap64 (x5_2 + 1))) = some r := by first | (rw [hy320]; with_reducible exact H) | (have H2_ := (Option.bind_some _ _).symm.trans H; rw [hy320]; with_reducible exact H2_) | (have H2_ := (Option.bind_some _ _).symm.trans H; with_reducible exact H2_) | with_reducible exact H | (rw [hy320]; exact H) | exact H
                have Ny320 := Aside0.mk hy320
                clear hy320
                as_aux_lemma =>
                 have H' := Aside0.mk H
                 clear H
                 have p306 : 0 ≤ (x5_2 : Int) := of_decide_eq_true (by first | (with_reducible assumption) | assumption)
                 have q306 : x5_2 < (l0.length : Int) := of_decide_eq_true (by first | (with_reducible assumption) | assumption)
                 obtain ⟨ad306, e306, hx306_0⟩ := Kd.at_int (Kd.C_kept_now HR0.out HK.out) x5_2 p306 q306
                 obtain rfl : ad298 = ad306 := (by injection e306)
                 replace p306 := eq_true p306
                 replace q306 := eq_true q306
                 have p310 : 0 ≤ (x5_2 : Int) := of_decide_eq_true (by first | (with_reducible assumption) | assumption)
                 have q310 : x5_2 < (l0.length : Int) := of_decide_eq_true (by first | (with_reducible assumption) | assumption)
                 obtain ⟨ad310, e310, hx310_0⟩ := Kd.at_int (Kd.C_kept_now HR0.out HK.out) x5_2 p310 q310
                 obtain rfl : ad298 = ad310 := (by injection e310)
                 replace p310 := eq_true p310
                 replace q310 := eq_true q310
                 have p315 : 0 ≤ (x5_2 : Int) := of_decide_eq_true (by first | (with_reducible assumption) | assumption)
                 have q315 : x5_2 < (l0.length : Int) := of_decide_eq_true (by first | (with_reducible assumption) | assumption)
                 obtain ⟨ad315, e315, hx315_0⟩ := Kd.at_int (Kd.C_kept_now HR0.out HK.out) x5_2 p315 q315
                 obtain rfl : ad298 = ad315 := (by injection e315)
                 replace p315 := eq_true p315
                 replace q315 := eq_true q315
                 go_wp2_with (first | ((with_reducible refine gate_builtin (b := .append) (xs := #[.tmp 70, .tmp 71]) rfl ?_); at_builtin; refine Kd.R_append (Kd.int .u8) (w0 := w0) w0.heap.size rfl (.tmp 70) (.tmp 71) 48 5 (.int .u8 0) 1 rfl Try.underlying48 info5 rfl (by decide) (by omega) u1 x1_2 32 [.int .u8 32] (fun k_ => (P1_ k_ ∨ w.heap.size ≤ k_)) (fun _ => False) rfl rfl ?aP (fun _ hk => hk.elim) ?aF ?aO ?aB ?aS ?aL ?_; (case aP => exact rfl); (case aB => exact (by repeat (first | (with_reducible first | exact HB.out | apply below_alloc | apply pw_below_drewN | apply below_drew1) | exact HB.out))); (case aF => exact (fun k_ hk => (.inr (Nat.le_trans (by first | exact HK.out.1 | exact (show Kept w _ (fun k_ => P1_ k_) from by repeat (first | (with_reducible first | exact HK.out | apply Kept.alloc | apply Kept.drewN | apply Kept.drew) | exact HK.out)).1) hk)))); (case aO => exact (by (with_reducible repeat (first | apply Kd.R_alloc | apply Kd.R_drewN | apply Kd.R_drew)); exact HO_1.out)); (case aS => exact (below_size (by repeat (first | (with_reducible first | exact HB.out | apply below_alloc | apply pw_below_drewN | apply below_drew1) | exact HB.out)))); (case aL => have := LMc31.out; omega); intro v321 w32 ho hb hg hat; rw [← Ny320.out] at ho; have n0_ := Aside0.mk (hb); have n1_ := Aside0.mk (Kept.of_grown (S := (fun k_ => P1_ k_)) hg (by repeat (first | (with_reducible first | exact HK.out | apply Kept.alloc | apply Kept.drewN | apply Kept.drew) | exact HK.out)) (fun k_ e_ => (HO_1.out.1 k_ e_))); have n2_ := Aside0.mk (ho); clear HB; clear HK; clear HO_1; have HB := n0_; have HK := n1_; have HO322 := n2_; clear n0_ n1_ n2_; clear ho hb hg hat))
                 go_roundg k2
                 case measure => have := HK1.out; have := HK2.out; omega
                 case rel => exact ⟨(y320), (wrap64 (x5_2 + 1)), (by first | rfl | (simp; done) | (simp [nil_ne_, nil_eq_]; done) | (simp [*]; done)), (by first | exact H' | (rw [hji11]; exact H') | (simp only [hji11]; exact H') | (simp only [hji11] at H' ⊢; exact H')), ⟨by have := HK1.out; have := HK2.out; omega⟩, ⟨by (with_reducible repeat (first | apply Kd.R_alloc | apply Kd.R_drewN | apply Kd.R_drew)); exact HO322.out⟩, ⟨by repeat (first | (with_reducible first | exact HK.out | apply Kept.alloc | apply Kept.drewN | apply Kept.drew) | exact HK.out)⟩, ⟨by repeat (first | (with_reducible first | exact HB.out | apply below_alloc | apply pw_below_drewN | apply below_drew1) | exact HB.out)⟩⟩
               rw [if_neg c31] at H
               exact absurd H (by simp)
              rw [if_neg c21] at H
              exact absurd H (by simp)
             rw [if_neg c20] at H
             have c20b0 : decide (x5_2 < (l0.length : Int)) = false := decide_eq_false c20
             clear c20
             as_aux_lemma =>
              have H' := Aside0.mk H
              clear H
              go_wp2
              go_roundg k2
              case measure => have := HK1.out; have := HK2.out; omega
              case rel => exact ⟨(x1_2), (wrap64 (x5_2 + 1)), (by first | rfl | (simp; done) | (simp [nil_ne_, nil_eq_]; done) | (simp [*]; done)), (by first | exact H' | (rw [hji11]; exact H') | (simp only [hji11]; exact H') | (simp only [hji11] at H' ⊢; exact H')), ⟨by have := HK1.out; have := HK2.out; omega⟩, ⟨by (with_reducible repeat (first | apply Kd.R_alloc | apply Kd.R_drewN | apply Kd.R_drew)); exact HO_1.out⟩, ⟨by repeat (first | (with_reducible first | exact HK.out | apply Kept.alloc | apply Kept.drewN | apply Kept.drew) | exact HK.out)⟩, ⟨by repeat (first | (with_reducible first | exact HB.out | apply below_alloc | apply pw_below_drewN | apply below_drew1) | exact HB.out)⟩⟩
           rw [if_neg c15] at H
           exact absurd H (by simp)
          rw [if_neg c14] at H
          have c14b0 : ((rd l0 (ji11)) == 47) = false := beq_eq_false_iff_ne.mpr c14
          have c14b1 : ((rd l0 (ji11)) != 47) = true := bne_iff_ne.mpr c14
          by_cases c33 : (rd l0 (ji11)) = 42
          ·
           rw [if_pos c33] at H
           have c33b0 : ((rd l0 (ji11)) == 42) = true := beq_iff_eq.mpr c33
           have c33b1 : ((rd l0 (ji11)) != 42) = false := bne_eq_false_iff_eq.mpr c33
           clear c33
           obtain ⟨y324, hy324⟩ : ∃ y_ : List Int, y_ = (([32, 32] : List Int)) := ⟨_, rfl⟩
           replace H : (if x1_1.length + y324.length < 140737488355328 then (pretty_spec.l2 k1 l0 (x1_1 ++ y324) (wrap64 (x5_1 + 2))) else (none)) = some r := by first | (rw [hy324]; with_reducible exact H) | (have H2_ := (Option.bind_some _ _).symm.trans H; rw [hy324]; with_reducible exact H2_) | (have H2_ := (Option.bind_some _ _).symm.trans H; with_reducible exact H2_) | with_reducible exact H | (rw [hy324]; exact H) | exact H
           have Ny324 := Aside0.mk hy324
           clear hy324
           by_cases c34 : x1_1.length + y324.length < 140737488355328
           ·
            rw [if_pos c34] at H
            have LMc34 := Aside0.mk c34
            clear c34
            obtain ⟨y327, hy327⟩ : ∃ y_ : List Int, y_ = (x1_1 ++ y324) := ⟨_, rfl⟩
            replace H : (pretty_spec.l2 k1 l0 y327 (wrap64 (x5_1 + 2))) = some r := by first | (rw [hy327]; with_reducible exact H) | (have H2_ := (Option.bind_some _ _).symm.trans H; rw [hy327]; with_reducible exact H2_) | (have H2_ := (Option.bind_some _ _).symm.trans H; with_reducible exact H2_) | with_reducible exact H | (rw [hy327]; exact H) | exact H
            have Ny327 := Aside0.mk hy327
            clear hy327
            have H' := Aside0.mk H
            clear H
            have p299 : 0 ≤ ((ji11) : Int) := of_decide_eq_true (by first | (with_reducible assumption) | assumption)
            have q299 : (ji11) < (l0.length : Int) := of_decide_eq_true (by first | (with_reducible assumption) | assumption)
            obtain ⟨ad299, e299, hx299_0⟩ := Kd.at_int (Kd.C_kept_now HR0.out HK.out) (ji11) p299 q299
            obtain rfl : ad298 = ad299 := (by injection e299)
            replace p299 := eq_true p299
            replace q299 := eq_true q299
            have p323 : 0 ≤ ((ji11) : Int) := of_decide_eq_true (by first | (with_reducible assumption) | assumption)
            have q323 : (ji11) < (l0.length : Int) := of_decide_eq_true (by first | (with_reducible assumption) | assumption)
            obtain ⟨ad323, e323, hx323_0⟩ := Kd.at_int (Kd.C_kept_now HR0.out HK.out) (ji11) p323 q323
            obtain rfl : ad298 = ad323 := (by injection e323)
            replace p323 := eq_true p323
            replace q323 := eq_true q323
            go_wp2_with (first | ((with_reducible refine gate_dst (N := 80) rfl ?_); refine Kd.R_lit (Kd.int .u8) _ 5 ?hg (N := 80) ?hd (xs := ([32, 32] : List Int)) (inner := [.int .u8 32, .int .u8 32]) (ok := fun _ => True) (okp := fun _ => True) ?hr ?hp (fun _ hk => hk) trivial (Below.refl _ _) (Nat.le_refl _) (by simp) ?_; (case hd => rfl); (case hg => rfl); (case hr => first | (go_simp; done) | (go_simp; rfl)); (case hp => exact (Reps.one (show Kd.M (Kd.int .u8) _ _ _ 32 [.int .u8 32] from rfl) (Reps.one (show Kd.M (Kd.int .u8) _ _ _ 32 [.int .u8 32] from rfl) (Reps.none _ _)))); intro v325 w35 ho36 hb hg_ hnew_; clear hg_ hnew_; (first | rw [← Ny324.out] at ho36 | (simp only [Int.reduceToNat] at ho36; rw [← Ny324.out] at ho36)); have n0_ := Aside0.mk (Kd.R_elder' (by (with_reducible repeat (first | apply Kd.R_alloc | apply Kd.R_drewN | apply Kd.R_drew)); exact HO_1.out) (Kd.R_base ho36) hb); have n1_ := Aside0.mk (Kd.R_lower (Kd.R_new' (Kd.R_newM (M := fun k_ => (P1_ k_ ∨ w.heap.size ≤ k_)) ho36 (by first | exact HK.out.1 | exact (show Kept w _ (fun k_ => P1_ k_) from by repeat (first | (with_reducible first | exact HK.out | apply Kept.alloc | apply Kept.drewN | apply Kept.drew) | exact HK.out)).1) (fun k_ h_ => .inr h_)) (Kd.R_lt (by (with_reducible repeat (first | apply Kd.R_alloc | apply Kd.R_drewN | apply Kd.R_drew)); exact HO_1.out))) (below_size (by repeat (first | (with_reducible first | exact HB.out | apply below_alloc | apply pw_below_drewN | apply below_drew1) | exact HB.out)))); have n2_ := Aside0.mk (Kept.below (S := (fun k_ => P1_ k_)) (by repeat (first | (with_reducible first | exact HK.out | apply Kept.alloc | apply Kept.drewN | apply Kept.drew) | exact HK.out)) hb); have n3_ := Aside0.mk (below_step (by repeat (first | (with_reducible first | exact HB.out | apply below_alloc | apply pw_below_drewN | apply below_drew1) | exact HB.out)) hb); clear HO_1; clear HK; clear HB; have HO_1 := n0_; have HO326 := n1_; have HK := n2_; have HB := n3_; clear n0_ n1_ n2_ n3_; clear hb ho36; obtain ⟨Ao38, co38, eo38⟩ := Kd.R_slice HO326.out; subst eo38) | ((with_reducible refine gate_builtin (b := .append) (xs := #[.tmp 79, .tmp 80]) rfl ?_); at_builtin; refine Kd.R_append_rows (Kd.int .u8) (w0 := w0) w0.heap.size rfl (.tmp 79) (.tmp 80) 48 5 (.int .u8 0) 1 rfl Try.underlying48 info5 rfl (by decide) (by omega) u1 x1_1 y324 _ _ _ (fun k_ => (P1_ k_ ∨ w.heap.size ≤ k_) ∧ some k_ ≠ (.slice Ao38 y324.length co38 : Value).ownBlock) (fun _ => False) rfl rfl ?aO ?aR (fun _ _ h => h) (fun _ h => h.elim) ?aF ?aB ?aS ?aL ?_; (case aR => repeat (first | exact (Kd.R_reads' HO326.out).2.2 | (with_reducible refine Kd.C_alloc ?_ _) | (with_reducible refine Kd.C_drewN ?_ _) | (with_reducible refine Kd.C_drew ?_))); (case aB => exact (by repeat (first | (with_reducible first | exact HB.out | apply below_alloc | apply pw_below_drewN | apply below_drew1) | exact HB.out))); (case aF => exact (fun k_ hk => ⟨(.inr (Nat.le_trans (by first | exact HK.out.1 | exact (show Kept w _ (fun k_ => P1_ k_) from by repeat (first | (with_reducible first | exact HK.out | apply Kept.alloc | apply Kept.drewN | apply Kept.drew) | exact HK.out)).1) hk)), Kd.fresh' (Kd.R_lt (by (with_reducible repeat (first | apply Kd.R_alloc | apply Kd.R_drewN | apply Kd.R_drew)); exact HO326.out)) k_ hk⟩)); (case aO => exact (by (with_reducible repeat (first | apply Kd.R_alloc | apply Kd.R_drewN | apply Kd.R_drew)); exact HO_1.out)); (case aS => exact (below_size (by repeat (first | (with_reducible first | exact HB.out | apply below_alloc | apply pw_below_drewN | apply below_drew1) | exact HB.out)))); (case aL => have := LMc34.out; omega); intro v328 w37 ho hb hg hat; rw [← Ny327.out] at ho; have n0_ := Aside0.mk (Kd.R_after (ok := (fun k_ => (P1_ k_ ∨ w.heap.size ≤ k_))) (by (with_reducible repeat (first | apply Kd.R_alloc | apply Kd.R_drewN | apply Kd.R_drew)); exact Kd.R_mono HO326.out (fun _ hk => ⟨hk.1.1, hk.2⟩)) hg hat); have n1_ := Aside0.mk (hb); have n2_ := Aside0.mk (Kept.of_grown (S := (fun k_ => P1_ k_)) hg (by repeat (first | (with_reducible first | exact HK.out | apply Kept.alloc | apply Kept.drewN | apply Kept.drew) | exact HK.out)) (fun k_ e_ => (HO_1.out.1 k_ e_).1)); have n3_ := Aside0.mk (ho); clear HO326; clear HB; clear HK; clear HO_1; have HO326 := n0_; have HB := n1_; have HK := n2_; have HO329 := n3_; clear n0_ n1_ n2_ n3_; clear ho hb hg hat))
            try simp only [Act.put, List.setIfInBounds_toArray, List.set_cons_succ, List.set_cons_zero]
            go_loopg [1, 5] k1 (fun kq v1 v5 w' => ∃ (x1_2 : List Int) (x5_2 : Int), v5 = .int .i64 x5_2 ∧ Aside0 (pretty_spec.l2 kq l0 x1_2 x5_2 = some r) ∧ Aside0 (kq ≤ k1) ∧ Aside0 (Kd.R (Kd.int .u8) 5 w' w0.heap.size (fun k_ => (P1_ k_ ∨ w.heap.size ≤ k_)) v1 x1_2) ∧ Aside0 (Kept w w' (fun k_ => P1_ k_)) ∧ Aside0 (Below w0.heap.size w0 w'))
            case atStart => exact ⟨(y327), (wrap64 (x5_1 + 2)), (by first | rfl | (simp; done) | (simp [nil_ne_, nil_eq_]; done) | (simp [*]; done)), H', ⟨Nat.le_refl _⟩, ⟨by (with_reducible repeat (first | apply Kd.R_alloc | apply Kd.R_drewN | apply Kd.R_drew)); exact Kd.R_mono HO329.out (fun _ hk => hk.1)⟩, ⟨by repeat (first | (with_reducible first | exact HK.out | apply Kept.alloc | apply Kept.drewN | apply Kept.drew) | exact HK.out)⟩, ⟨by repeat (first | (with_reducible first | exact HB.out | apply below_alloc | apply pw_below_drewN | apply below_drew1) | exact HB.out)⟩⟩
            case round =>
             clear H'
             try clear c1
             try clear c2
             try clear p2
             try clear q2
             try clear hx2
             try clear c3
             try clear c3b0
             try clear c3b1
             try clear p3
             try clear q3
             try clear hx3
             try clear c4
             try clear q5
             try clear c6
             try clear c6b0
             try clear p6
             try clear c7
             try clear c7b0
             try clear c9
             try clear c9b0
             try clear c9b1
             try clear c10
             try clear c10b0
             try clear c12
             try clear c12b0
             try clear c13
             try clear c13b0
             try clear c14
             try clear c14b0
             try clear c14b1
             try clear c15
             try clear c20
             try clear c20b0
             try clear c21
             try clear c21b0
             try clear c22
             try clear c22b0
             try clear c22b1
             try clear c23
             try clear c25
             try clear c25b0
             try clear c25b1
             try clear c26
             try clear c28
             try clear c28b0
             try clear c28b1
             try clear c29
             try clear p29
             try clear q29
             try clear hx29
             try clear p30
             try clear q30
             try clear hx30
             try clear c31
             try clear p31
             try clear q31
             try clear hx31
             try clear p32
             try clear q32
             try clear hx32
             try clear c33
             try clear c33b0
             try clear c33b1
             try clear c34
             try clear hx298_0
             try clear hx299_0
             try clear hx306_0
             try clear hx310_0
             try clear hx311_0
             try clear hx315_0
             try clear hx316_0
             try clear hx323_0
             try clear p2
             try clear p298
             try clear p299
             try clear p306
             try clear p310
             try clear p311
             try clear p315
             try clear p316
             try clear p323
             try clear p6
             try clear q2
             try clear q298
             try clear q299
             try clear q306
             try clear q310
             try clear q311
             try clear q315
             try clear q316
             try clear q323
             try clear q5
             obtain ⟨x1_2, x5_2, rfl, HA, HK2, HO_1, HK, HB⟩ := hrel
             rcases gk with _ | k2
             · exact absurd HA.out (by simp [pretty_spec.l2])
             have H := HA.out
             clear HA
             simp only [pretty_spec.l2] at H
             by_cases c39 : x5_2 < (wrap64 ((l0.length : Int) - 1))
             ·
              rw [if_pos c39] at H
              have c39b0 : decide (x5_2 < (wrap64 ((l0.length : Int) - 1))) = true := decide_eq_true c39
              clear c39
              have HC40 := Aside0.mk H
              clear H
              go_upto_region 22 with (fail)
              go_cut [103] (fun v103 wc => ∃ (kq : Nat) (x103_39 : Bool), v103 = .bool x103_39 ∧ Aside0 (pretty_spec.j3 kq l0 x1_2 x5_2 x103_39 = some r) ∧ Aside0 (kq ≤ k2) ∧ Aside0 (Kd.R (Kd.int .u8) 5 wc w0.heap.size (fun k_ => (P1_ k_ ∨ w.heap.size ≤ k_)) u1 x1_2) ∧ Aside0 (Kept w wc (fun k_ => P1_ k_)) ∧ Aside0 (Below w0.heap.size w0 wc))
              case first => as_aux_lemma =>
               have H := HC40.out
               clear HC40
               by_cases c41 : 0 ≤ x5_2
               ·
                rw [if_pos c41] at H
                have c41b0 : decide (0 ≤ x5_2) = true := decide_eq_true c41
                clear c41
                (first | rw [c41b0] | (simp only [i64_w, i32_w]; rw [c41b0]) | rw [c41b1] | skip)
                by_cases c42 : x5_2 < (l0.length : Int)
                ·
                 rw [if_pos c42] at H
                 have c42b0 : decide (x5_2 < (l0.length : Int)) = true := decide_eq_true c42
                 clear c42
                 by_cases c43 : (rd l0 x5_2) = 42
                 ·
                  rw [if_pos c43] at H
                  have c43b0 : ((rd l0 x5_2) == 42) = true := beq_iff_eq.mpr c43
                  have c43b1 : ((rd l0 x5_2) != 42) = false := bne_eq_false_iff_eq.mpr c43
                  clear c43
                  obtain ⟨ji44, hji44⟩ : ∃ j_ : Int, (wrap64 (x5_2 + 1)) = j_ := ⟨_, rfl⟩
                  replace H : (if 0 ≤ (ji44) then (if (ji44) < (l0.length : Int) then (pretty_spec.j3 k2 l0 x1_2 x5_2 ((rd l0 (ji44)) == 47)) else (none)) else (none)) = some r := by first | (rw [hji44] at H; exact H) | (simp only [hji44] at H ⊢; exact H)
                  have hji44w : (IntKind.i64.wrap (x5_2 + 1)) = ji44 := (i64_w _).trans hji44
                  by_cases c45 : 0 ≤ (ji44)
                  ·
                   rw [if_pos c45] at H
                   have c45b0 : decide (0 ≤ (ji44)) = true := decide_eq_true c45
                   clear c45
                   by_cases c46 : (ji44) < (l0.length : Int)
                   ·
                    rw [if_pos c46] at H
                    have c46b0 : decide ((ji44) < (l0.length : Int)) = true := decide_eq_true c46
                    clear c46
                    as_aux_lemma =>
                     have H' := Aside0.mk H
                     clear H
                     have p330 : 0 ≤ (x5_2 : Int) := of_decide_eq_true (by first | (with_reducible assumption) | assumption)
                     have q330 : x5_2 < (l0.length : Int) := of_decide_eq_true (by first | (with_reducible assumption) | assumption)
                     obtain ⟨ad330, e330, hx330_0⟩ := Kd.at_int (Kd.C_kept_now HR0.out HK.out) x5_2 p330 q330
                     obtain rfl : ad298 = ad330 := (by injection e330)
                     replace p330 := eq_true p330
                     replace q330 := eq_true q330
                     have p331 : 0 ≤ ((ji44) : Int) := of_decide_eq_true (by first | (with_reducible assumption) | assumption)
                     have q331 : (ji44) < (l0.length : Int) := of_decide_eq_true (by first | (with_reducible assumption) | assumption)
                     obtain ⟨ad331, e331, hx331_0⟩ := Kd.at_int (Kd.C_kept_now HR0.out HK.out) (ji44) p331 q331
                     obtain rfl : ad298 = ad331 := (by injection e331)
                     replace p331 := eq_true p331
                     replace q331 := eq_true q331
                     go_wp2
                     go_meet
                     case rel => exact ⟨_, (((rd l0 (ji44)) == 47)), (by first | rfl | (simp; done) | (simp only [← hji44] <;> (first | rfl | simp); done) | (simp [nil_ne_, nil_eq_]; done) | (simp [*]; done)), (by first | exact H' | (rw [hji44]; exact H') | (simp only [hji11, hji44]; exact H') | (simp only [hji11, hji44] at H' ⊢; exact H')), ⟨by have := HK1.out; have := HK2.out; first | omega | exact Nat.le_refl _⟩, ⟨by (with_reducible repeat (first | apply Kd.R_alloc | apply Kd.R_drewN | apply Kd.R_drew)); exact HO_1.out⟩, ⟨by repeat (first | (with_reducible first | exact HK.out | apply Kept.alloc | apply Kept.drewN | apply Kept.drew) | exact HK.out)⟩, ⟨by repeat (first | (with_reducible first | exact HB.out | apply below_alloc | apply pw_below_drewN | apply below_drew1) | exact HB.out)⟩⟩
                   rw [if_neg c46] at H
                   exact absurd H (by simp)
                  rw [if_neg c45] at H
                  exact absurd H (by simp)
                 rw [if_neg c43] at H
                 have c43b0 : ((rd l0 x5_2) == 42) = false := beq_eq_false_iff_ne.mpr c43
                 have c43b1 : ((rd l0 x5_2) != 42) = true := bne_iff_ne.mpr c43
                 as_aux_lemma =>
                  have H' := Aside0.mk H
                  clear H
                  have p330 : 0 ≤ (x5_2 : Int) := of_decide_eq_true (by first | (with_reducible assumption) | assumption)
                  have q330 : x5_2 < (l0.length : Int) := of_decide_eq_true (by first | (with_reducible assumption) | assumption)
                  obtain ⟨ad330, e330, hx330_0⟩ := Kd.at_int (Kd.C_kept_now HR0.out HK.out) x5_2 p330 q330
                  obtain rfl : ad298 = ad330 := (by injection e330)
                  replace p330 := eq_true p330
                  replace q330 := eq_true q330
                  go_wp2
                  go_meet
                  case rel => exact ⟨_, (false), (by first | rfl | (simp; done) | (simp [nil_ne_, nil_eq_]; done) | (simp [*]; done)), (by first | exact H' | (rw [hji11]; exact H') | (simp only [hji11]; exact H') | (simp only [hji11] at H' ⊢; exact H')), ⟨by have := HK1.out; have := HK2.out; first | omega | exact Nat.le_refl _⟩, ⟨by (with_reducible repeat (first | apply Kd.R_alloc | apply Kd.R_drewN | apply Kd.R_drew)); exact HO_1.out⟩, ⟨by repeat (first | (with_reducible first | exact HK.out | apply Kept.alloc | apply Kept.drewN | apply Kept.drew) | exact HK.out)⟩, ⟨by repeat (first | (with_reducible first | exact HB.out | apply below_alloc | apply pw_below_drewN | apply below_drew1) | exact HB.out)⟩⟩
                rw [if_neg c42] at H
                exact absurd H (by simp)
               rw [if_neg c41] at H
               exact absurd H (by simp)
              case rest => as_aux_lemma =>
               clear HC40
               try clear c1
               try clear c2
               try clear p2
               try clear q2
               try clear hx2
               try clear c3
               try clear c3b0
               try clear c3b1
               try clear p3
               try clear q3
               try clear hx3
               try clear c4
               try clear q5
               try clear c6
               try clear c6b0
               try clear p6
               try clear c7
               try clear c7b0
               try clear c9
               try clear c9b0
               try clear c9b1
               try clear c10
               try clear c10b0
               try clear c12
               try clear c12b0
               try clear c13
               try clear c13b0
               try clear c14
               try clear c14b0
               try clear c14b1
               try clear c15
               try clear c20
               try clear c20b0
               try clear c21
               try clear c21b0
               try clear c22
               try clear c22b0
               try clear c22b1
               try clear c23
               try clear c25
               try clear c25b0
               try clear c25b1
               try clear c26
               try clear c28
               try clear c28b0
               try clear c28b1
               try clear c29
               try clear p29
               try clear q29
               try clear hx29
               try clear p30
               try clear q30
               try clear hx30
               try clear c31
               try clear p31
               try clear q31
               try clear hx31
               try clear p32
               try clear q32
               try clear hx32
               try clear c33
               try clear c33b0
               try clear c33b1
               try clear p33
               try clear q33
               try clear hx33
               try clear c34
               try clear c39
               try clear c39b0
               try clear c41
               try clear c41b0
               try clear c41b1
               try clear c42
               try clear c42b0
               try clear c43
               try clear c43b0
               try clear c43b1
               try clear c44
               try clear c45
               try clear c45b0
               try clear c46
               try clear c46b0
               try clear hx298_0
               try clear hx299_0
               try clear hx306_0
               try clear hx310_0
               try clear hx311_0
               try clear hx315_0
               try clear hx316_0
               try clear hx323_0
               try clear hx330_0
               try clear hx331_0
               try clear p2
               try clear p29
               try clear p298
               try clear p299
               try clear p3
               try clear p30
               try clear p306
               try clear p31
               try clear p310
               try clear p311
               try clear p315
               try clear p316
               try clear p32
               try clear p323
               try clear p330
               try clear p331
               try clear p6
               try clear q2
               try clear q29
               try clear q298
               try clear q299
               try clear q3
               try clear q30
               try clear q306
               try clear q31
               try clear q310
               try clear q311
               try clear q315
               try clear q316
               try clear q32
               try clear q323
               try clear q330
               try clear q331
               try clear q5
               obtain ⟨kq, x103_39, rfl, HA, HJ39, HO_1, HK, HB⟩ := hcut
               rcases kq with _ | kj39
               · exact absurd HA.out (by simp [pretty_spec.j3])
               have H := HA.out
               clear HA
               simp only [pretty_spec.j3] at H
               by_cases c47 : x103_39 = true
               ·
                subst c47
                have H1 : ((some (([32, 32] : List Int) : List Int)).bind fun y332 => (if x1_2.length + y332.length < 140737488355328 then (pretty_spec.l0 kj39 l0 (x1_2 ++ y332) (wrap64 ((wrap64 (x5_2 + 1)) + 1))) else (none))) = some r := by rw [if_pos rfl] at H; exact H
                clear H
                have H := H1
                clear H1
                obtain ⟨y332, hy332⟩ : ∃ y_ : List Int, y_ = (([32, 32] : List Int)) := ⟨_, rfl⟩
                replace H : (if x1_2.length + y332.length < 140737488355328 then (pretty_spec.l0 kj39 l0 (x1_2 ++ y332) (wrap64 ((wrap64 (x5_2 + 1)) + 1))) else (none)) = some r := by first | (rw [hy332]; with_reducible exact H) | (have H2_ := (Option.bind_some _ _).symm.trans H; rw [hy332]; with_reducible exact H2_) | (have H2_ := (Option.bind_some _ _).symm.trans H; with_reducible exact H2_) | with_reducible exact H | (rw [hy332]; exact H) | exact H
                have Ny332 := Aside0.mk hy332
                clear hy332
                by_cases c48 : x1_2.length + y332.length < 140737488355328
                ·
                 rw [if_pos c48] at H
                 have LMc48 := Aside0.mk c48
                 clear c48
                 obtain ⟨y335, hy335⟩ : ∃ y_ : List Int, y_ = (x1_2 ++ y332) := ⟨_, rfl⟩
                 replace H : (pretty_spec.l0 kj39 l0 y335 (wrap64 ((wrap64 (x5_2 + 1)) + 1))) = some r := by first | (rw [hy335]; with_reducible exact H) | (have H2_ := (Option.bind_some _ _).symm.trans H; rw [hy335]; with_reducible exact H2_) | (have H2_ := (Option.bind_some _ _).symm.trans H; with_reducible exact H2_) | with_reducible exact H | (rw [hy335]; exact H) | exact H
                 have Ny335 := Aside0.mk hy335
                 clear hy335
                 as_aux_lemma =>
                  have H' := Aside0.mk H
                  clear H
                  go_wp2_with (first | ((with_reducible refine gate_dst (N := 105) rfl ?_); refine Kd.R_lit (Kd.int .u8) _ 5 ?hg (N := 105) ?hd (xs := ([32, 32] : List Int)) (inner := [.int .u8 32, .int .u8 32]) (ok := fun _ => True) (okp := fun _ => True) ?hr ?hp (fun _ hk => hk) trivial (Below.refl _ _) (Nat.le_refl _) (by simp) ?_; (case hd => rfl); (case hg => rfl); (case hr => first | (go_simp; done) | (go_simp; rfl)); (case hp => exact (Reps.one (show Kd.M (Kd.int .u8) _ _ _ 32 [.int .u8 32] from rfl) (Reps.one (show Kd.M (Kd.int .u8) _ _ _ 32 [.int .u8 32] from rfl) (Reps.none _ _)))); intro v333 w49 ho50 hb hg_ hnew_; clear hg_ hnew_; (first | rw [← Ny332.out] at ho50 | (simp only [Int.reduceToNat] at ho50; rw [← Ny332.out] at ho50)); have n0_ := Aside0.mk (Kd.R_elder' (by (with_reducible repeat (first | apply Kd.R_alloc | apply Kd.R_drewN | apply Kd.R_drew)); exact HO_1.out) (Kd.R_base ho50) hb); have n1_ := Aside0.mk (Kd.R_lower (Kd.R_new' (Kd.R_newM (M := fun k_ => (P1_ k_ ∨ w.heap.size ≤ k_)) ho50 (by first | exact HK.out.1 | exact (show Kept w _ (fun k_ => P1_ k_) from by repeat (first | (with_reducible first | exact HK.out | apply Kept.alloc | apply Kept.drewN | apply Kept.drew) | exact HK.out)).1) (fun k_ h_ => .inr h_)) (Kd.R_lt (by (with_reducible repeat (first | apply Kd.R_alloc | apply Kd.R_drewN | apply Kd.R_drew)); exact HO_1.out))) (below_size (by repeat (first | (with_reducible first | exact HB.out | apply below_alloc | apply pw_below_drewN | apply below_drew1) | exact HB.out)))); have n2_ := Aside0.mk (Kept.below (S := (fun k_ => P1_ k_)) (by repeat (first | (with_reducible first | exact HK.out | apply Kept.alloc | apply Kept.drewN | apply Kept.drew) | exact HK.out)) hb); have n3_ := Aside0.mk (below_step (by repeat (first | (with_reducible first | exact HB.out | apply below_alloc | apply pw_below_drewN | apply below_drew1) | exact HB.out)) hb); clear HO_1; clear HK; clear HB; have HO_1 := n0_; have HO334 := n1_; have HK := n2_; have HB := n3_; clear n0_ n1_ n2_ n3_; clear hb ho50; obtain ⟨Ao52, co52, eo52⟩ := Kd.R_slice HO334.out; subst eo52) | ((with_reducible refine gate_builtin (b := .append) (xs := #[.tmp 104, .tmp 105]) rfl ?_); at_builtin; refine Kd.R_append_rows (Kd.int .u8) (w0 := w0) w0.heap.size rfl (.tmp 104) (.tmp 105) 48 5 (.int .u8 0) 1 rfl Try.underlying48 info5 rfl (by decide) (by omega) u1 x1_2 y332 _ _ _ (fun k_ => (P1_ k_ ∨ w.heap.size ≤ k_) ∧ some k_ ≠ (.slice Ao52 y332.length co52 : Value).ownBlock) (fun _ => False) rfl rfl ?aO ?aR (fun _ _ h => h) (fun _ h => h.elim) ?aF ?aB ?aS ?aL ?_; (case aR => repeat (first | exact (Kd.R_reads' HO334.out).2.2 | (with_reducible refine Kd.C_alloc ?_ _) | (with_reducible refine Kd.C_drewN ?_ _) | (with_reducible refine Kd.C_drew ?_))); (case aB => exact (by repeat (first | (with_reducible first | exact HB.out | apply below_alloc | apply pw_below_drewN | apply below_drew1) | exact HB.out))); (case aF => exact (fun k_ hk => ⟨(.inr (Nat.le_trans (by first | exact HK.out.1 | exact (show Kept w _ (fun k_ => P1_ k_) from by repeat (first | (with_reducible first | exact HK.out | apply Kept.alloc | apply Kept.drewN | apply Kept.drew) | exact HK.out)).1) hk)), Kd.fresh' (Kd.R_lt (by (with_reducible repeat (first | apply Kd.R_alloc | apply Kd.R_drewN | apply Kd.R_drew)); exact HO334.out)) k_ hk⟩)); (case aO => exact (by (with_reducible repeat (first | apply Kd.R_alloc | apply Kd.R_drewN | apply Kd.R_drew)); exact HO_1.out)); (case aS => exact (below_size (by repeat (first | (with_reducible first | exact HB.out | apply below_alloc | apply pw_below_drewN | apply below_drew1) | exact HB.out)))); (case aL => have := LMc48.out; omega); intro v336 w51 ho hb hg hat; rw [← Ny335.out] at ho; have n0_ := Aside0.mk (Kd.R_after (ok := (fun k_ => (P1_ k_ ∨ w.heap.size ≤ k_))) (by (with_reducible repeat (first | apply Kd.R_alloc | apply Kd.R_drewN | apply Kd.R_drew)); exact Kd.R_mono HO334.out (fun _ hk => ⟨hk.1.1, hk.2⟩)) hg hat); have n1_ := Aside0.mk (hb); have n2_ := Aside0.mk (Kept.of_grown (S := (fun k_ => P1_ k_)) hg (by repeat (first | (with_reducible first | exact HK.out | apply Kept.alloc | apply Kept.drewN | apply Kept.drew) | exact HK.out)) (fun k_ e_ => (HO_1.out.1 k_ e_).1)); have n3_ := Aside0.mk (ho); clear HO334; clear HB; clear HK; clear HO_1; have HO334 := n0_; have HB := n1_; have HK := n2_; have HO337 := n3_; clear n0_ n1_ n2_ n3_; clear ho hb hg hat))
                  go_roundg kj39
                  case measure => have := HK1.out; have := HK2.out; have := HJ39.out; omega
                  case rel => exact ⟨(y335), (wrap64 ((wrap64 (x5_2 + 1)) + 1)), (by first | rfl | (simp; done) | (simp [nil_ne_, nil_eq_]; done) | (simp [*]; done)), (by first | exact H' | (rw [hji11]; exact H') | (simp only [hji11]; exact H') | (simp only [hji11] at H' ⊢; exact H')), ⟨by have := HK1.out; have := HK2.out; have := HJ39.out; omega⟩, ⟨by (with_reducible repeat (first | apply Kd.R_alloc | apply Kd.R_drewN | apply Kd.R_drew)); exact Kd.R_mono HO337.out (fun _ hk => hk.1)⟩, ⟨by repeat (first | (with_reducible first | exact HK.out | apply Kept.alloc | apply Kept.drewN | apply Kept.drew) | exact HK.out)⟩, ⟨by repeat (first | (with_reducible first | exact HB.out | apply below_alloc | apply pw_below_drewN | apply below_drew1) | exact HB.out)⟩⟩
                rw [if_neg c48] at H
                exact absurd H (by simp)
               replace c47 := Bool.eq_false_iff.mpr c47
               subst c47
               have H1 : (if 0 ≤ x5_2 then (if x5_2 < (l0.length : Int) then (if (rd l0 x5_2) = 10 then (if x1_2.length < 140737488355328 then (pretty_spec.l2 kj39 l0 (x1_2 ++ [rd l0 x5_2]) (wrap64 (x5_2 + 1))) else (none)) else (if (rd l0 x5_2) = 9 then (if x1_2.length < 140737488355328 then (pretty_spec.l2 kj39 l0 (x1_2 ++ [rd l0 x5_2]) (wrap64 (x5_2 + 1))) else (none)) else (if (rd l0 x5_2) = 13 then (if x1_2.length < 140737488355328 then (pretty_spec.l2 kj39 l0 (x1_2 ++ [rd l0 x5_2]) (wrap64 (x5_2 + 1))) else (none)) else (if x1_2.length < 140737488355328 then (pretty_spec.l2 kj39 l0 (x1_2 ++ [32]) (wrap64 (x5_2 + 1))) else (none))))) else (none)) else (none)) = some r := by rw [if_neg (show ¬ (false = true) by decide)] at H; exact H
               clear H
               have H := H1
               clear H1
               by_cases c53 : 0 ≤ x5_2
               ·
                rw [if_pos c53] at H
                have c53b0 : decide (0 ≤ x5_2) = true := decide_eq_true c53
                clear c53
                by_cases c54 : x5_2 < (l0.length : Int)
                ·
                 rw [if_pos c54] at H
                 have c54b0 : decide (x5_2 < (l0.length : Int)) = true := decide_eq_true c54
                 clear c54
                 by_cases c55 : (rd l0 x5_2) = 10
                 ·
                  rw [if_pos c55] at H
                  have c55b0 : ((rd l0 x5_2) == 10) = true := beq_iff_eq.mpr c55
                  have c55b1 : ((rd l0 x5_2) != 10) = false := bne_eq_false_iff_eq.mpr c55
                  clear c55
                  by_cases c56 : x1_2.length < 140737488355328
                  ·
                   rw [if_pos c56] at H
                   have LMc56 := Aside0.mk c56
                   clear c56
                   obtain ⟨y340, hy340⟩ : ∃ y_ : List Int, y_ = (x1_2 ++ [rd l0 x5_2]) := ⟨_, rfl⟩
                   replace H : (pretty_spec.l2 kj39 l0 y340 (wrap64 (x5_2 + 1))) = some r := by first | (rw [hy340]; with_reducible exact H) | (have H2_ := (Option.bind_some _ _).symm.trans H; rw [hy340]; with_reducible exact H2_) | (have H2_ := (Option.bind_some _ _).symm.trans H; with_reducible exact H2_) | with_reducible exact H | (rw [hy340]; exact H) | exact H
                   have Ny340 := Aside0.mk hy340
                   clear hy340
                   as_aux_lemma =>
                    have H' := Aside0.mk H
                    clear H
                    have p338 : 0 ≤ (x5_2 : Int) := of_decide_eq_true (by first | (with_reducible assumption) | assumption)
                    have q338 : x5_2 < (l0.length : Int) := of_decide_eq_true (by first | (with_reducible assumption) | assumption)
                    obtain ⟨ad338, e338, hx338_0⟩ := Kd.at_int (Kd.C_kept_now HR0.out HK.out) x5_2 p338 q338
                    obtain rfl : ad298 = ad338 := (by injection e338)
                    replace p338 := eq_true p338
                    replace q338 := eq_true q338
                    have p339 : 0 ≤ (x5_2 : Int) := of_decide_eq_true (by first | (with_reducible assumption) | assumption)
                    have q339 : x5_2 < (l0.length : Int) := of_decide_eq_true (by first | (with_reducible assumption) | assumption)
                    obtain ⟨ad339, e339, hx339_0⟩ := Kd.at_int (Kd.C_kept_now HR0.out HK.out) x5_2 p339 q339
                    obtain rfl : ad298 = ad339 := (by injection e339)
                    replace p339 := eq_true p339
                    replace q339 := eq_true q339
                    go_wp2_with (first | ((with_reducible refine gate_builtin (b := .append) (xs := #[.tmp 128, .tmp 133]) rfl ?_); at_builtin; refine Kd.R_append (Kd.int .u8) (w0 := w0) w0.heap.size rfl (.tmp 128) (.tmp 133) 48 5 (.int .u8 0) 1 rfl Try.underlying48 info5 rfl (by decide) (by omega) u1 x1_2 (rd l0 x5_2) [.int .u8 (rd l0 x5_2)] (fun k_ => (P1_ k_ ∨ w.heap.size ≤ k_)) (fun _ => False) rfl rfl ?aP (fun _ hk => hk.elim) ?aF ?aO ?aB ?aS ?aL ?_; (case aP => exact rfl); (case aB => exact (by repeat (first | (with_reducible first | exact HB.out | apply below_alloc | apply pw_below_drewN | apply below_drew1) | exact HB.out))); (case aF => exact (fun k_ hk => (.inr (Nat.le_trans (by first | exact HK.out.1 | exact (show Kept w _ (fun k_ => P1_ k_) from by repeat (first | (with_reducible first | exact HK.out | apply Kept.alloc | apply Kept.drewN | apply Kept.drew) | exact HK.out)).1) hk)))); (case aO => exact (by (with_reducible repeat (first | apply Kd.R_alloc | apply Kd.R_drewN | apply Kd.R_drew)); exact HO_1.out)); (case aS => exact (below_size (by repeat (first | (with_reducible first | exact HB.out | apply below_alloc | apply pw_below_drewN | apply below_drew1) | exact HB.out)))); (case aL => have := LMc56.out; omega); intro v341 w57 ho hb hg hat; rw [← Ny340.out] at ho; have n0_ := Aside0.mk (hb); have n1_ := Aside0.mk (Kept.of_grown (S := (fun k_ => P1_ k_)) hg (by repeat (first | (with_reducible first | exact HK.out | apply Kept.alloc | apply Kept.drewN | apply Kept.drew) | exact HK.out)) (fun k_ e_ => (HO_1.out.1 k_ e_))); have n2_ := Aside0.mk (ho); clear HB; clear HK; clear HO_1; have HB := n0_; have HK := n1_; have HO342 := n2_; clear n0_ n1_ n2_; clear ho hb hg hat))
                    go_roundg kj39
                    case measure => have := HK1.out; have := HK2.out; have := HJ39.out; omega
                    case rel => exact ⟨(y340), (wrap64 (x5_2 + 1)), (by first | rfl | (simp; done) | (simp [nil_ne_, nil_eq_]; done) | (simp [*]; done)), (by first | exact H' | (rw [hji11]; exact H') | (simp only [hji11]; exact H') | (simp only [hji11] at H' ⊢; exact H')), ⟨by have := HK1.out; have := HK2.out; have := HJ39.out; omega⟩, ⟨by (with_reducible repeat (first | apply Kd.R_alloc | apply Kd.R_drewN | apply Kd.R_drew)); exact HO342.out⟩, ⟨by repeat (first | (with_reducible first | exact HK.out | apply Kept.alloc | apply Kept.drewN | apply Kept.drew) | exact HK.out)⟩, ⟨by repeat (first | (with_reducible first | exact HB.out | apply below_alloc | apply pw_below_drewN | apply below_drew1) | exact HB.out)⟩⟩
                  rw [if_neg c56] at H
                  exact absurd H (by simp)
                 rw [if_neg c55] at H
                 have c55b0 : ((rd l0 x5_2) == 10) = false := beq_eq_false_iff_ne.mpr c55
                 have c55b1 : ((rd l0 x5_2) != 10) = true := bne_iff_ne.mpr c55
                 by_cases c58 : (rd l0 x5_2) = 9
                 ·
                  rw [if_pos c58] at H
                  have c58b0 : ((rd l0 x5_2) == 9) = true := beq_iff_eq.mpr c58
                  have c58b1 : ((rd l0 x5_2) != 9) = false := bne_eq_false_iff_eq.mpr c58
                  clear c58
                  by_cases c59 : x1_2.length < 140737488355328
                  ·
                   rw [if_pos c59] at H
                   have LMc59 := Aside0.mk c59
                   clear c59
                   obtain ⟨y345, hy345⟩ : ∃ y_ : List Int, y_ = (x1_2 ++ [rd l0 x5_2]) := ⟨_, rfl⟩
                   replace H : (pretty_spec.l2 kj39 l0 y345 (wrap64 (x5_2 + 1))) = some r := by first | (rw [hy345]; with_reducible exact H) | (have H2_ := (Option.bind_some _ _).symm.trans H; rw [hy345]; with_reducible exact H2_) | (have H2_ := (Option.bind_some _ _).symm.trans H; with_reducible exact H2_) | with_reducible exact H | (rw [hy345]; exact H) | exact H
                   have Ny345 := Aside0.mk hy345
                   clear hy345
                   as_aux_lemma =>
                    have H' := Aside0.mk H
                    clear H
                    have p338 : 0 ≤ (x5_2 : Int) := of_decide_eq_true (by first | (with_reducible assumption) | assumption)
                    have q338 : x5_2 < (l0.length : Int) := of_decide_eq_true (by first | (with_reducible assumption) | assumption)
                    obtain ⟨ad338, e338, hx338_0⟩ := Kd.at_int (Kd.C_kept_now HR0.out HK.out) x5_2 p338 q338
                    obtain rfl : ad298 = ad338 := (by injection e338)
                    replace p338 := eq_true p338
                    replace q338 := eq_true q338
                    have p343 : 0 ≤ (x5_2 : Int) := of_decide_eq_true (by first | (with_reducible assumption) | assumption)
                    have q343 : x5_2 < (l0.length : Int) := of_decide_eq_true (by first | (with_reducible assumption) | assumption)
                    obtain ⟨ad343, e343, hx343_0⟩ := Kd.at_int (Kd.C_kept_now HR0.out HK.out) x5_2 p343 q343
                    obtain rfl : ad298 = ad343 := (by injection e343)
                    replace p343 := eq_true p343
                    replace q343 := eq_true q343
                    have p344 : 0 ≤ (x5_2 : Int) := of_decide_eq_true (by first | (with_reducible assumption) | assumption)
                    have q344 : x5_2 < (l0.length : Int) := of_decide_eq_true (by first | (with_reducible assumption) | assumption)
                    obtain ⟨ad344, e344, hx344_0⟩ := Kd.at_int (Kd.C_kept_now HR0.out HK.out) x5_2 p344 q344
                    obtain rfl : ad298 = ad344 := (by injection e344)
                    replace p344 := eq_true p344
                    replace q344 := eq_true q344
                    go_wp2_with (first | ((with_reducible refine gate_builtin (b := .append) (xs := #[.tmp 128, .tmp 133]) rfl ?_); at_builtin; refine Kd.R_append (Kd.int .u8) (w0 := w0) w0.heap.size rfl (.tmp 128) (.tmp 133) 48 5 (.int .u8 0) 1 rfl Try.underlying48 info5 rfl (by decide) (by omega) u1 x1_2 (rd l0 x5_2) [.int .u8 (rd l0 x5_2)] (fun k_ => (P1_ k_ ∨ w.heap.size ≤ k_)) (fun _ => False) rfl rfl ?aP (fun _ hk => hk.elim) ?aF ?aO ?aB ?aS ?aL ?_; (case aP => exact rfl); (case aB => exact (by repeat (first | (with_reducible first | exact HB.out | apply below_alloc | apply pw_below_drewN | apply below_drew1) | exact HB.out))); (case aF => exact (fun k_ hk => (.inr (Nat.le_trans (by first | exact HK.out.1 | exact (show Kept w _ (fun k_ => P1_ k_) from by repeat (first | (with_reducible first | exact HK.out | apply Kept.alloc | apply Kept.drewN | apply Kept.drew) | exact HK.out)).1) hk)))); (case aO => exact (by (with_reducible repeat (first | apply Kd.R_alloc | apply Kd.R_drewN | apply Kd.R_drew)); exact HO_1.out)); (case aS => exact (below_size (by repeat (first | (with_reducible first | exact HB.out | apply below_alloc | apply pw_below_drewN | apply below_drew1) | exact HB.out)))); (case aL => have := LMc59.out; omega); intro v346 w60 ho hb hg hat; rw [← Ny345.out] at ho; have n0_ := Aside0.mk (hb); have n1_ := Aside0.mk (Kept.of_grown (S := (fun k_ => P1_ k_)) hg (by repeat (first | (with_reducible first | exact HK.out | apply Kept.alloc | apply Kept.drewN | apply Kept.drew) | exact HK.out)) (fun k_ e_ => (HO_1.out.1 k_ e_))); have n2_ := Aside0.mk (ho); clear HB; clear HK; clear HO_1; have HB := n0_; have HK := n1_; have HO347 := n2_; clear n0_ n1_ n2_; clear ho hb hg hat))
                    go_roundg kj39
                    case measure => have := HK1.out; have := HK2.out; have := HJ39.out; omega
                    case rel => exact ⟨(y345), (wrap64 (x5_2 + 1)), (by first | rfl | (simp; done) | (simp [nil_ne_, nil_eq_]; done) | (simp [*]; done)), (by first | exact H' | (rw [hji11]; exact H') | (simp only [hji11]; exact H') | (simp only [hji11] at H' ⊢; exact H')), ⟨by have := HK1.out; have := HK2.out; have := HJ39.out; omega⟩, ⟨by (with_reducible repeat (first | apply Kd.R_alloc | apply Kd.R_drewN | apply Kd.R_drew)); exact HO347.out⟩, ⟨by repeat (first | (with_reducible first | exact HK.out | apply Kept.alloc | apply Kept.drewN | apply Kept.drew) | exact HK.out)⟩, ⟨by repeat (first | (with_reducible first | exact HB.out | apply below_alloc | apply pw_below_drewN | apply below_drew1) | exact HB.out)⟩⟩
                  rw [if_neg c59] at H
                  exact absurd H (by simp)
                 rw [if_neg c58] at H
                 have c58b0 : ((rd l0 x5_2) == 9) = false := beq_eq_false_iff_ne.mpr c58
                 have c58b1 : ((rd l0 x5_2) != 9) = true := bne_iff_ne.mpr c58
                 by_cases c61 : (rd l0 x5_2) = 13
                 ·
                  rw [if_pos c61] at H
                  have c61b0 : ((rd l0 x5_2) == 13) = true := beq_iff_eq.mpr c61
                  have c61b1 : ((rd l0 x5_2) != 13) = false := bne_eq_false_iff_eq.mpr c61
                  clear c61
                  by_cases c62 : x1_2.length < 140737488355328
                  ·
                   rw [if_pos c62] at H
                   have LMc62 := Aside0.mk c62
                   clear c62
                   obtain ⟨y350, hy350⟩ : ∃ y_ : List Int, y_ = (x1_2 ++ [rd l0 x5_2]) := ⟨_, rfl⟩
                   replace H : (pretty_spec.l2 kj39 l0 y350 (wrap64 (x5_2 + 1))) = some r := by first | (rw [hy350]; with_reducible exact H) | (have H2_ := (Option.bind_some _ _).symm.trans H; rw [hy350]; with_reducible exact H2_) | (have H2_ := (Option.bind_some _ _).symm.trans H; with_reducible exact H2_) | with_reducible exact H | (rw [hy350]; exact H) | exact H
                   have Ny350 := Aside0.mk hy350
                   clear hy350
                   as_aux_lemma =>
                    have H' := Aside0.mk H
                    clear H
                    have p338 : 0 ≤ (x5_2 : Int) := of_decide_eq_true (by first | (with_reducible assumption) | assumption)
                    have q338 : x5_2 < (l0.length : Int) := of_decide_eq_true (by first | (with_reducible assumption) | assumption)
                    obtain ⟨ad338, e338, hx338_0⟩ := Kd.at_int (Kd.C_kept_now HR0.out HK.out) x5_2 p338 q338
                    obtain rfl : ad298 = ad338 := (by injection e338)
                    replace p338 := eq_true p338
                    replace q338 := eq_true q338
                    have p343 : 0 ≤ (x5_2 : Int) := of_decide_eq_true (by first | (with_reducible assumption) | assumption)
                    have q343 : x5_2 < (l0.length : Int) := of_decide_eq_true (by first | (with_reducible assumption) | assumption)
                    obtain ⟨ad343, e343, hx343_0⟩ := Kd.at_int (Kd.C_kept_now HR0.out HK.out) x5_2 p343 q343
                    obtain rfl : ad298 = ad343 := (by injection e343)
                    replace p343 := eq_true p343
                    replace q343 := eq_true q343
                    have p348 : 0 ≤ (x5_2 : Int) := of_decide_eq_true (by first | (with_reducible assumption) | assumption)
                    have q348 : x5_2 < (l0.length : Int) := of_decide_eq_true (by first | (with_reducible assumption) | assumption)
                    obtain ⟨ad348, e348, hx348_0⟩ := Kd.at_int (Kd.C_kept_now HR0.out HK.out) x5_2 p348 q348
                    obtain rfl : ad298 = ad348 := (by injection e348)
                    replace p348 := eq_true p348
                    replace q348 := eq_true q348
                    have p349 : 0 ≤ (x5_2 : Int) := of_decide_eq_true (by first | (with_reducible assumption) | assumption)
                    have q349 : x5_2 < (l0.length : Int) := of_decide_eq_true (by first | (with_reducible assumption) | assumption)
                    obtain ⟨ad349, e349, hx349_0⟩ := Kd.at_int (Kd.C_kept_now HR0.out HK.out) x5_2 p349 q349
                    obtain rfl : ad298 = ad349 := (by injection e349)
                    replace p349 := eq_true p349
                    replace q349 := eq_true q349
                    go_wp2_with (first | ((with_reducible refine gate_builtin (b := .append) (xs := #[.tmp 128, .tmp 133]) rfl ?_); at_builtin; refine Kd.R_append (Kd.int .u8) (w0 := w0) w0.heap.size rfl (.tmp 128) (.tmp 133) 48 5 (.int .u8 0) 1 rfl Try.underlying48 info5 rfl (by decide) (by omega) u1 x1_2 (rd l0 x5_2) [.int .u8 (rd l0 x5_2)] (fun k_ => (P1_ k_ ∨ w.heap.size ≤ k_)) (fun _ => False) rfl rfl ?aP (fun _ hk => hk.elim) ?aF ?aO ?aB ?aS ?aL ?_; (case aP => exact rfl); (case aB => exact (by repeat (first | (with_reducible first | exact HB.out | apply below_alloc | apply pw_below_drewN | apply below_drew1) | exact HB.out))); (case aF => exact (fun k_ hk => (.inr (Nat.le_trans (by first | exact HK.out.1 | exact (show Kept w _ (fun k_ => P1_ k_) from by repeat (first | (with_reducible first | exact HK.out | apply Kept.alloc | apply Kept.drewN | apply Kept.drew) | exact HK.out)).1) hk)))); (case aO => exact (by (with_reducible repeat (first | apply Kd.R_alloc | apply Kd.R_drewN | apply Kd.R_drew)); exact HO_1.out)); (case aS => exact (below_size (by repeat (first | (with_reducible first | exact HB.out | apply below_alloc | apply pw_below_drewN | apply below_drew1) | exact HB.out)))); (case aL => have := LMc62.out; omega); intro v351 w63 ho hb hg hat; rw [← Ny350.out] at ho; have n0_ := Aside0.mk (hb); have n1_ := Aside0.mk (Kept.of_grown (S := (fun k_ => P1_ k_)) hg (by repeat (first | (with_reducible first | exact HK.out | apply Kept.alloc | apply Kept.drewN | apply Kept.drew) | exact HK.out)) (fun k_ e_ => (HO_1.out.1 k_ e_))); have n2_ := Aside0.mk (ho); clear HB; clear HK; clear HO_1; have HB := n0_; have HK := n1_; have HO352 := n2_; clear n0_ n1_ n2_; clear ho hb hg hat))
                    go_roundg kj39
                    case measure => have := HK1.out; have := HK2.out; have := HJ39.out; omega
                    case rel => exact ⟨(y350), (wrap64 (x5_2 + 1)), (by first | rfl | (simp; done) | (simp [nil_ne_, nil_eq_]; done) | (simp [*]; done)), (by first | exact H' | (rw [hji11]; exact H') | (simp only [hji11]; exact H') | (simp only [hji11] at H' ⊢; exact H')), ⟨by have := HK1.out; have := HK2.out; have := HJ39.out; omega⟩, ⟨by (with_reducible repeat (first | apply Kd.R_alloc | apply Kd.R_drewN | apply Kd.R_drew)); exact HO352.out⟩, ⟨by repeat (first | (with_reducible first | exact HK.out | apply Kept.alloc | apply Kept.drewN | apply Kept.drew) | exact HK.out)⟩, ⟨by repeat (first | (with_reducible first | exact HB.out | apply below_alloc | apply pw_below_drewN | apply below_drew1) | exact HB.out)⟩⟩
                  rw [if_neg c62] at H
                  exact absurd H (by simp)
                 rw [if_neg c61] at H
                 have c61b0 : ((rd l0 x5_2) == 13) = false := beq_eq_false_iff_ne.mpr c61
                 have c61b1 : ((rd l0 x5_2) != 13) = true := bne_iff_ne.mpr c61
                 by_cases c64 : x1_2.length < 140737488355328
                 ·
                  rw [if_pos c64] at H
                  have LMc64 := Aside0.mk c64
                  clear c64
                  obtain ⟨y353, hy353⟩ : ∃ y_ : List Int, y_ = (x1_2 ++ [32]) := ⟨_, rfl⟩
                  replace H : (pretty_spec.l2 kj39 l0 y353 (wrap64 (x5_2 + 1))) = some r := by first | (rw [hy353]; with_reducible exact H) | (have H2_ := (Option.bind_some _ _).symm.trans H; rw [hy353]; with_reducible exact H2_) | (have H2_ := (Option.bind_some _ _).symm.trans H; with_reducible exact H2_) | with_reducible exact H | (rw [hy353]; exact H) | exact H
                  have Ny353 := Aside0.mk hy353
                  clear hy353
                  as_aux_lemma =>
                   have H' := Aside0.mk H
                   clear H
                   have p338 : 0 ≤ (x5_2 : Int) := of_decide_eq_true (by first | (with_reducible assumption) | assumption)
                   have q338 : x5_2 < (l0.length : Int) := of_decide_eq_true (by first | (with_reducible assumption) | assumption)
                   obtain ⟨ad338, e338, hx338_0⟩ := Kd.at_int (Kd.C_kept_now HR0.out HK.out) x5_2 p338 q338
                   obtain rfl : ad298 = ad338 := (by injection e338)
                   replace p338 := eq_true p338
                   replace q338 := eq_true q338
                   have p343 : 0 ≤ (x5_2 : Int) := of_decide_eq_true (by first | (with_reducible assumption) | assumption)
                   have q343 : x5_2 < (l0.length : Int) := of_decide_eq_true (by first | (with_reducible assumption) | assumption)
                   obtain ⟨ad343, e343, hx343_0⟩ := Kd.at_int (Kd.C_kept_now HR0.out HK.out) x5_2 p343 q343
                   obtain rfl : ad298 = ad343 := (by injection e343)
                   replace p343 := eq_true p343
                   replace q343 := eq_true q343
                   have p348 : 0 ≤ (x5_2 : Int) := of_decide_eq_true (by first | (with_reducible assumption) | assumption)
                   have q348 : x5_2 < (l0.length : Int) := of_decide_eq_true (by first | (with_reducible assumption) | assumption)
                   obtain ⟨ad348, e348, hx348_0⟩ := Kd.at_int (Kd.C_kept_now HR0.out HK.out) x5_2 p348 q348
                   obtain rfl : ad298 = ad348 := (by injection e348)
                   replace p348 := eq_true p348
                   replace q348 := eq_true q348
                   go_wp2_with (first | ((with_reducible refine gate_builtin (b := .append) (xs := #[.tmp 135, .tmp 136]) rfl ?_); at_builtin; refine Kd.R_append (Kd.int .u8) (w0 := w0) w0.heap.size rfl (.tmp 135) (.tmp 136) 48 5 (.int .u8 0) 1 rfl Try.underlying48 info5 rfl (by decide) (by omega) u1 x1_2 32 [.int .u8 32] (fun k_ => (P1_ k_ ∨ w.heap.size ≤ k_)) (fun _ => False) rfl rfl ?aP (fun _ hk => hk.elim) ?aF ?aO ?aB ?aS ?aL ?_; (case aP => exact rfl); (case aB => exact (by repeat (first | (with_reducible first | exact HB.out | apply below_alloc | apply pw_below_drewN | apply below_drew1) | exact HB.out))); (case aF => exact (fun k_ hk => (.inr (Nat.le_trans (by first | exact HK.out.1 | exact (show Kept w _ (fun k_ => P1_ k_) from by repeat (first | (with_reducible first | exact HK.out | apply Kept.alloc | apply Kept.drewN | apply Kept.drew) | exact HK.out)).1) hk)))); (case aO => exact (by (with_reducible repeat (first | apply Kd.R_alloc | apply Kd.R_drewN | apply Kd.R_drew)); exact HO_1.out)); (case aS => exact (below_size (by repeat (first | (with_reducible first | exact HB.out | apply below_alloc | apply pw_below_drewN | apply below_drew1) | exact HB.out)))); (case aL => have := LMc64.out; omega); intro v354 w65 ho hb hg hat; rw [← Ny353.out] at ho; have n0_ := Aside0.mk (hb); have n1_ := Aside0.mk (Kept.of_grown (S := (fun k_ => P1_ k_)) hg (by repeat (first | (with_reducible first | exact HK.out | apply Kept.alloc | apply Kept.drewN | apply Kept.drew) | exact HK.out)) (fun k_ e_ => (HO_1.out.1 k_ e_))); have n2_ := Aside0.mk (ho); clear HB; clear HK; clear HO_1; have HB := n0_; have HK := n1_; have HO355 := n2_; clear n0_ n1_ n2_; clear ho hb hg hat))
                   go_roundg kj39
                   case measure => have := HK1.out; have := HK2.out; have := HJ39.out; omega
                   case rel => exact ⟨(y353), (wrap64 (x5_2 + 1)), (by first | rfl | (simp; done) | (simp [nil_ne_, nil_eq_]; done) | (simp [*]; done)), (by first | exact H' | (rw [hji11]; exact H') | (simp only [hji11]; exact H') | (simp only [hji11] at H' ⊢; exact H')), ⟨by have := HK1.out; have := HK2.out; have := HJ39.out; omega⟩, ⟨by (with_reducible repeat (first | apply Kd.R_alloc | apply Kd.R_drewN | apply Kd.R_drew)); exact HO355.out⟩, ⟨by repeat (first | (with_reducible first | exact HK.out | apply Kept.alloc | apply Kept.drewN | apply Kept.drew) | exact HK.out)⟩, ⟨by repeat (first | (with_reducible first | exact HB.out | apply below_alloc | apply pw_below_drewN | apply below_drew1) | exact HB.out)⟩⟩
                 rw [if_neg c64] at H
                 exact absurd H (by simp)
                rw [if_neg c54] at H
                exact absurd H (by simp)
               rw [if_neg c53] at H
               exact absurd H (by simp)
             rw [if_neg c39] at H
             have c39b0 : decide (x5_2 < (wrap64 ((l0.length : Int) - 1))) = false := decide_eq_false c39
             clear c39
             as_aux_lemma =>
              have H' := Aside0.mk H
              clear H
              go_wp2
              go_roundg k2
              case measure => have := HK1.out; have := HK2.out; omega
              case rel => exact ⟨(x1_2), (wrap64 (x5_2 + 1)), (by first | rfl | (simp; done) | (simp [nil_ne_, nil_eq_]; done) | (simp [*]; done)), (by first | exact H' | (rw [hji11]; exact H') | (simp only [hji11]; exact H') | (simp only [hji11] at H' ⊢; exact H')), ⟨by have := HK1.out; have := HK2.out; omega⟩, ⟨by (with_reducible repeat (first | apply Kd.R_alloc | apply Kd.R_drewN | apply Kd.R_drew)); exact HO_1.out⟩, ⟨by repeat (first | (with_reducible first | exact HK.out | apply Kept.alloc | apply Kept.drewN | apply Kept.drew) | exact HK.out)⟩, ⟨by repeat (first | (with_reducible first | exact HB.out | apply below_alloc | apply pw_below_drewN | apply below_drew1) | exact HB.out)⟩⟩
           rw [if_neg c34] at H
           exact absurd H (by simp)
          rw [if_neg c33] at H
          have c33b0 : ((rd l0 (ji11)) == 42) = false := beq_eq_false_iff_ne.mpr c33
          have c33b1 : ((rd l0 (ji11)) != 42) = true := bne_iff_ne.mpr c33
          as_aux_lemma =>
           have H' := Aside0.mk H
           clear H
           have p299 : 0 ≤ ((ji11) : Int) := of_decide_eq_true (by first | (with_reducible assumption) | assumption)
           have q299 : (ji11) < (l0.length : Int) := of_decide_eq_true (by first | (with_reducible assumption) | assumption)
           obtain ⟨ad299, e299, hx299_0⟩ := Kd.at_int (Kd.C_kept_now HR0.out HK.out) (ji11) p299 q299
           obtain rfl : ad298 = ad299 := (by injection e299)
           replace p299 := eq_true p299
           replace q299 := eq_true q299
           have p323 : 0 ≤ ((ji11) : Int) := of_decide_eq_true (by first | (with_reducible assumption) | assumption)
           have q323 : (ji11) < (l0.length : Int) := of_decide_eq_true (by first | (with_reducible assumption) | assumption)
           obtain ⟨ad323, e323, hx323_0⟩ := Kd.at_int (Kd.C_kept_now HR0.out HK.out) (ji11) p323 q323
           obtain rfl : ad298 = ad323 := (by injection e323)
           replace p323 := eq_true p323
           replace q323 := eq_true q323
           go_wp2
           go_meet
           case rel => exact ⟨_, (x1_1), (x5_1), (by first | rfl | (simp; done) | (simp [nil_ne_, nil_eq_]; done) | (simp [*]; done)), (by first | exact H' | (rw [hji11]; exact H') | (simp only [hji11]; exact H') | (simp only [hji11] at H' ⊢; exact H')), ⟨by have := HK1.out; first | omega | exact Nat.le_refl _⟩, ⟨by (with_reducible repeat (first | apply Kd.R_alloc | apply Kd.R_drewN | apply Kd.R_drew)); exact HO_1.out⟩, ⟨by repeat (first | (with_reducible first | exact HK.out | apply Kept.alloc | apply Kept.drewN | apply Kept.drew) | exact HK.out)⟩, ⟨by repeat (first | (with_reducible first | exact HB.out | apply below_alloc | apply pw_below_drewN | apply below_drew1) | exact HB.out)⟩⟩
         rw [if_neg c13] at H
         exact absurd H (by simp)
        rw [if_neg c12] at H
        exact absurd H (by simp)
       rw [if_neg c10] at H
       have c10b0 : decide (x5_1 < (wrap64 ((l0.length : Int) - 1))) = false := decide_eq_false c10
       clear c10
       as_aux_lemma =>
        have H' := Aside0.mk H
        clear H
        go_wp2
        go_meet
        case rel => exact ⟨_, (x1_1), (x5_1), (by first | rfl | (simp; done) | (simp [nil_ne_, nil_eq_]; done) | (simp [*]; done)), H', ⟨by have := HK1.out; first | omega | exact Nat.le_refl _⟩, ⟨by (with_reducible repeat (first | apply Kd.R_alloc | apply Kd.R_drewN | apply Kd.R_drew)); exact HO_1.out⟩, ⟨by repeat (first | (with_reducible first | exact HK.out | apply Kept.alloc | apply Kept.drewN | apply Kept.drew) | exact HK.out)⟩, ⟨by repeat (first | (with_reducible first | exact HB.out | apply below_alloc | apply pw_below_drewN | apply below_drew1) | exact HB.out)⟩⟩
      rw [if_neg c9] at H
      have c9b0 : ((rd l0 x5_1) == 47) = false := beq_eq_false_iff_ne.mpr c9
      have c9b1 : ((rd l0 x5_1) != 47) = true := bne_iff_ne.mpr c9
      (first | rw [c9b0] | (simp only [i64_w, i32_w]; rw [c9b0]) | rw [c9b1] | skip)
      as_aux_lemma =>
       have H' := Aside0.mk H
       clear H
       go_wp2
       go_meet
       case rel => exact ⟨_, (x1_1), (x5_1), (by first | rfl | (simp; done) | (simp [nil_ne_, nil_eq_]; done) | (simp [*]; done)), H', ⟨by have := HK1.out; first | omega | exact Nat.le_refl _⟩, ⟨by (with_reducible repeat (first | apply Kd.R_alloc | apply Kd.R_drewN | apply Kd.R_drew)); exact HO_1.out⟩, ⟨by repeat (first | (with_reducible first | exact HK.out | apply Kept.alloc | apply Kept.drewN | apply Kept.drew) | exact HK.out)⟩, ⟨by repeat (first | (with_reducible first | exact HB.out | apply below_alloc | apply pw_below_drewN | apply below_drew1) | exact HB.out)⟩⟩
     case rest => as_aux_lemma =>
      clear HC8
      try clear c1
      try clear c2
      try clear p2
      try clear q2
      try clear hx2
      try clear c3
      try clear c3b0
      try clear c3b1
      try clear p3
      try clear q3
      try clear hx3
      try clear c4
      try clear c5
      try clear q5
      try clear c6
      try clear c6b0
      try clear p6
      try clear c7
      try clear c7b0
      try clear c9
      try clear c9b0
      try clear c9b1
      try clear c10
      try clear c10b0
      try clear c12
      try clear c12b0
      try clear c13
      try clear c13b0
      try clear c14
      try clear c14b0
      try clear c14b1
      try clear c15
      try clear c20
      try clear c20b0
      try clear c21
      try clear c21b0
      try clear c22
      try clear c22b0
      try clear c22b1
      try clear c23
      try clear c25
      try clear c25b0
      try clear c25b1
      try clear c26
      try clear c28
      try clear c28b0
      try clear c28b1
      try clear c29
      try clear p29
      try clear q29
      try clear hx29
      try clear p30
      try clear q30
      try clear hx30
      try clear c31
      try clear p31
      try clear q31
      try clear hx31
      try clear p32
      try clear q32
      try clear hx32
      try clear c33
      try clear c33b0
      try clear c33b1
      try clear p33
      try clear q33
      try clear hx33
      try clear c34
      try clear p34
      try clear q34
      try clear hx34
      try clear c39
      try clear c39b0
      try clear c41
      try clear c41b0
      try clear c41b1
      try clear c42
      try clear c42b0
      try clear c43
      try clear c43b0
      try clear c43b1
      try clear c44
      try clear c45
      try clear c45b0
      try clear c46
      try clear c46b0
      try clear c47
      try clear c48
      try clear c53
      try clear c53b0
      try clear c54
      try clear c54b0
      try clear c55
      try clear c55b0
      try clear c55b1
      try clear c56
      try clear c58
      try clear c58b0
      try clear c58b1
      try clear c59
      try clear c61
      try clear c61b0
      try clear c61b1
      try clear c62
      try clear c64
      try clear p64
      try clear hx298_0
      try clear hx299_0
      try clear hx306_0
      try clear hx310_0
      try clear hx311_0
      try clear hx315_0
      try clear hx316_0
      try clear hx323_0
      try clear hx330_0
      try clear hx331_0
      try clear hx338_0
      try clear hx339_0
      try clear hx343_0
      try clear hx344_0
      try clear hx348_0
      try clear hx349_0
      try clear p2
      try clear p29
      try clear p298
      try clear p299
      try clear p3
      try clear p30
      try clear p306
      try clear p31
      try clear p310
      try clear p311
      try clear p315
      try clear p316
      try clear p32
      try clear p323
      try clear p33
      try clear p330
      try clear p331
      try clear p338
      try clear p339
      try clear p343
      try clear p344
      try clear p348
      try clear p349
      try clear p6
      try clear q2
      try clear q29
      try clear q298
      try clear q299
      try clear q3
      try clear q30
      try clear q306
      try clear q31
      try clear q310
      try clear q311
      try clear q315
      try clear q316
      try clear q32
      try clear q323
      try clear q33
      try clear q330
      try clear q331
      try clear q338
      try clear q339
      try clear q343
      try clear q344
      try clear q348
      try clear q349
      try clear q5
      obtain ⟨kq, x1_7, x5_7, rfl, HA, HJ7, HO_1, HK, HB⟩ := hcut
      rcases kq with _ | kj7
      · exact absurd HA.out (by simp [pretty_spec.j4])
      have H := HA.out
      clear HA
      simp only [pretty_spec.j4] at H
      by_cases c66 : 0 ≤ x5_7
      ·
       rw [if_pos c66] at H
       have c66b0 : decide (0 ≤ x5_7) = true := decide_eq_true c66
       clear c66
       by_cases c67 : x5_7 < (l0.length : Int)
       ·
        rw [if_pos c67] at H
        have c67b0 : decide (x5_7 < (l0.length : Int)) = true := decide_eq_true c67
        clear c67
        by_cases c68 : x1_7.length < 140737488355328
        ·
         rw [if_pos c68] at H
         have LMc68 := Aside0.mk c68
         clear c68
         obtain ⟨y357, hy357⟩ : ∃ y_ : List Int, y_ = (x1_7 ++ [rd l0 x5_7]) := ⟨_, rfl⟩
         replace H : (if (rd l0 x5_7) = 34 then (pretty_spec.l3 kj7 l0 y357 (wrap64 (x5_7 + 1))) else (if (rd l0 x5_7) = 125 then (pretty_spec.j7 kj7 l0 y357 x5_7 true) else (pretty_spec.j7 kj7 l0 y357 x5_7 ((rd l0 x5_7) == 93)))) = some r := by first | (rw [hy357]; with_reducible exact H) | (have H2_ := (Option.bind_some _ _).symm.trans H; rw [hy357]; with_reducible exact H2_) | (have H2_ := (Option.bind_some _ _).symm.trans H; with_reducible exact H2_) | with_reducible exact H | (rw [hy357]; exact H) | exact H
         have Ny357 := Aside0.mk hy357
         clear hy357
         by_cases c69 : (rd l0 x5_7) = 34
         ·
          rw [if_pos c69] at H
          have c69b0 : ((rd l0 x5_7) == 34) = true := beq_iff_eq.mpr c69
          have c69b1 : ((rd l0 x5_7) != 34) = false := bne_eq_false_iff_eq.mpr c69
          clear c69
          have H' := Aside0.mk H
          clear H
          have p356 : 0 ≤ (x5_7 : Int) := of_decide_eq_true (by first | (with_reducible assumption) | assumption)
          have q356 : x5_7 < (l0.length : Int) := of_decide_eq_true (by first | (with_reducible assumption) | assumption)
          obtain ⟨ad356, e356, hx356_0⟩ := Kd.at_int (Kd.C_kept_now HR0.out HK.out) x5_7 p356 q356
          obtain rfl : ad298 = ad356 := (by injection e356)
          replace p356 := eq_true p356
          replace q356 := eq_true q356
          go_wp2_with (first | ((with_reducible refine gate_builtin (b := .append) (xs := #[.tmp 138, .tmp 143]) rfl ?_); at_builtin; refine Kd.R_append (Kd.int .u8) (w0 := w0) w0.heap.size rfl (.tmp 138) (.tmp 143) 48 5 (.int .u8 0) 1 rfl Try.underlying48 info5 rfl (by decide) (by omega) u1 x1_7 (rd l0 x5_7) [.int .u8 (rd l0 x5_7)] (fun k_ => (P1_ k_ ∨ w.heap.size ≤ k_)) (fun _ => False) rfl rfl ?aP (fun _ hk => hk.elim) ?aF ?aO ?aB ?aS ?aL ?_; (case aP => exact rfl); (case aB => exact (by repeat (first | (with_reducible first | exact HB.out | apply below_alloc | apply pw_below_drewN | apply below_drew1) | exact HB.out))); (case aF => exact (fun k_ hk => (.inr (Nat.le_trans (by first | exact HK.out.1 | exact (show Kept w _ (fun k_ => P1_ k_) from by repeat (first | (with_reducible first | exact HK.out | apply Kept.alloc | apply Kept.drewN | apply Kept.drew) | exact HK.out)).1) hk)))); (case aO => exact (by (with_reducible repeat (first | apply Kd.R_alloc | apply Kd.R_drewN | apply Kd.R_drew)); exact HO_1.out)); (case aS => exact (below_size (by repeat (first | (with_reducible first | exact HB.out | apply below_alloc | apply pw_below_drewN | apply below_drew1) | exact HB.out)))); (case aL => have := LMc68.out; omega); intro v358 w70 ho hb hg hat; rw [← Ny357.out] at ho; have n0_ := Aside0.mk (hb); have n1_ := Aside0.mk (Kept.of_grown (S := (fun k_ => P1_ k_)) hg (by repeat (first | (with_reducible first | exact HK.out | apply Kept.alloc | apply Kept.drewN | apply Kept.drew) | exact HK.out)) (fun k_ e_ => (HO_1.out.1 k_ e_))); have n2_ := Aside0.mk (ho); clear HB; clear HK; clear HO_1; have HB := n0_; have HK := n1_; have HO359 := n2_; clear n0_ n1_ n2_; clear ho hb hg hat; have p360 : 0 ≤ (x5_7 : Int) := of_decide_eq_true (by first | (with_reducible assumption) | assumption); have q360 : x5_7 < (l0.length : Int) := of_decide_eq_true (by first | (with_reducible assumption) | assumption); obtain ⟨ad360, e360, hx360_0⟩ := Kd.at_int (Kd.C_kept_now HR0.out HK.out) x5_7 p360 q360; obtain rfl : ad298 = ad360 := (by injection e360); replace p360 := eq_true p360; replace q360 := eq_true q360))
          try simp only [Act.put, List.setIfInBounds_toArray, List.set_cons_succ, List.set_cons_zero]
          go_loopg [1, 5] kj7 (fun kq v1 v5 w' => ∃ (x1_3 : List Int) (x5_3 : Int), v5 = .int .i64 x5_3 ∧ Aside0 (pretty_spec.l3 kq l0 x1_3 x5_3 = some r) ∧ Aside0 (kq ≤ kj7) ∧ Aside0 (Kd.R (Kd.int .u8) 5 w' w0.heap.size (fun k_ => (P1_ k_ ∨ w.heap.size ≤ k_)) v1 x1_3) ∧ Aside0 (Kept w w' (fun k_ => P1_ k_)) ∧ Aside0 (Below w0.heap.size w0 w'))
          case atStart => exact ⟨(y357), (wrap64 (x5_7 + 1)), (by first | rfl | (simp; done) | (simp [nil_ne_, nil_eq_]; done) | (simp [*]; done)), H', ⟨Nat.le_refl _⟩, ⟨by (with_reducible repeat (first | apply Kd.R_alloc | apply Kd.R_drewN | apply Kd.R_drew)); exact HO359.out⟩, ⟨by repeat (first | (with_reducible first | exact HK.out | apply Kept.alloc | apply Kept.drewN | apply Kept.drew) | exact HK.out)⟩, ⟨by repeat (first | (with_reducible first | exact HB.out | apply below_alloc | apply pw_below_drewN | apply below_drew1) | exact HB.out)⟩⟩
          case round =>
           clear H'
           try clear c1
           try clear c2
           try clear p2
           try clear q2
           try clear hx2
           try clear c3
           try clear c3b0
           try clear c3b1
           try clear p3
           try clear q3
           try clear hx3
           try clear c4
           try clear c5
           try clear q5
           try clear c6
           try clear c6b0
           try clear p6
           try clear c7
           try clear c7b0
           try clear c9
           try clear c9b0
           try clear c9b1
           try clear c10
           try clear c10b0
           try clear c12
           try clear c12b0
           try clear c13
           try clear c13b0
           try clear c14
           try clear c14b0
           try clear c14b1
           try clear c15
           try clear c20
           try clear c20b0
           try clear c21
           try clear c21b0
           try clear c22
           try clear c22b0
           try clear c22b1
           try clear c23
           try clear c25
           try clear c25b0
           try clear c25b1
           try clear c26
           try clear c28
           try clear c28b0
           try clear c28b1
           try clear c29
           try clear p29
           try clear q29
           try clear hx29
           try clear p30
           try clear q30
           try clear hx30
           try clear c31
           try clear p31
           try clear q31
           try clear hx31
           try clear p32
           try clear q32
           try clear hx32
           try clear c33
           try clear c33b0
           try clear c33b1
           try clear p33
           try clear q33
           try clear hx33
           try clear c34
           try clear p34
           try clear q34
           try clear hx34
           try clear p35
           try clear q35
           try clear hx35
           try clear p36
           try clear q36
           try clear hx36
           try clear c39
           try clear c39b0
           try clear c41
           try clear c41b0
           try clear c41b1
           try clear c42
           try clear c42b0
           try clear c43
           try clear c43b0
           try clear c43b1
           try clear c44
           try clear c45
           try clear c45b0
           try clear c46
           try clear c46b0
           try clear c47
           try clear c48
           try clear c53
           try clear c53b0
           try clear c54
           try clear c54b0
           try clear c55
           try clear c55b0
           try clear c55b1
           try clear c56
           try clear c58
           try clear c58b0
           try clear c58b1
           try clear c59
           try clear c61
           try clear c61b0
           try clear c61b1
           try clear c62
           try clear c64
           try clear p64
           try clear c66
           try clear c66b0
           try clear c67
           try clear c67b0
           try clear c68
           try clear c69
           try clear c69b0
           try clear c69b1
           try clear hx298_0
           try clear hx299_0
           try clear hx306_0
           try clear hx310_0
           try clear hx311_0
           try clear hx315_0
           try clear hx316_0
           try clear hx323_0
           try clear hx330_0
           try clear hx331_0
           try clear hx338_0
           try clear hx339_0
           try clear hx343_0
           try clear hx344_0
           try clear hx348_0
           try clear hx349_0
           try clear hx356_0
           try clear hx360_0
           try clear p2
           try clear p29
           try clear p298
           try clear p299
           try clear p3
           try clear p30
           try clear p306
           try clear p31
           try clear p310
           try clear p311
           try clear p315
           try clear p316
           try clear p32
           try clear p323
           try clear p33
           try clear p330
           try clear p331
           try clear p338
           try clear p339
           try clear p34
           try clear p343
           try clear p344
           try clear p348
           try clear p349
           try clear p356
           try clear p360
           try clear p6
           try clear p64
           try clear q2
           try clear q29
           try clear q298
           try clear q299
           try clear q3
           try clear q30
           try clear q306
           try clear q31
           try clear q310
           try clear q311
           try clear q315
           try clear q316
           try clear q32
           try clear q323
           try clear q33
           try clear q330
           try clear q331
           try clear q338
           try clear q339
           try clear q34
           try clear q343
           try clear q344
           try clear q348
           try clear q349
           try clear q356
           try clear q360
           try clear q5
           obtain ⟨x1_3, x5_3, rfl, HA, HK3, HO_1, HK, HB⟩ := hrel
           rcases gk with _ | k3
           · exact absurd HA.out (by simp [pretty_spec.l3])
           have H := HA.out
           clear HA
           simp only [pretty_spec.l3] at H
           by_cases c71 : x5_3 < (l0.length : Int)
           ·
            rw [if_pos c71] at H
            have c71b0 : decide (x5_3 < (l0.length : Int)) = true := decide_eq_true c71
            clear c71
            by_cases c72 : 0 ≤ x5_3
            ·
             rw [if_pos c72] at H
             have c72b0 : decide (0 ≤ x5_3) = true := decide_eq_true c72
             clear c72
             by_cases c73 : x1_3.length < 140737488355328
             ·
              rw [if_pos c73] at H
              have LMc73 := Aside0.mk c73
              clear c73
              obtain ⟨y362, hy362⟩ : ∃ y_ : List Int, y_ = (x1_3 ++ [rd l0 x5_3]) := ⟨_, rfl⟩
              replace H : (if (rd l0 x5_3) = 34 then (pretty_spec.l4 k3 l0 y362 x5_3 (wrap64 (x5_3 - 1))) else (pretty_spec.l3 k3 l0 y362 (wrap64 (x5_3 + 1)))) = some r := by first | (rw [hy362]; with_reducible exact H) | (have H2_ := (Option.bind_some _ _).symm.trans H; rw [hy362]; with_reducible exact H2_) | (have H2_ := (Option.bind_some _ _).symm.trans H; with_reducible exact H2_) | with_reducible exact H | (rw [hy362]; exact H) | exact H
              have Ny362 := Aside0.mk hy362
              clear hy362
              by_cases c74 : (rd l0 x5_3) = 34
              ·
               rw [if_pos c74] at H
               have c74b0 : ((rd l0 x5_3) == 34) = true := beq_iff_eq.mpr c74
               have c74b1 : ((rd l0 x5_3) != 34) = false := bne_eq_false_iff_eq.mpr c74
               clear c74
               have H' := Aside0.mk H
               clear H
               have p361 : 0 ≤ (x5_3 : Int) := of_decide_eq_true (by first | (with_reducible assumption) | assumption)
               have q361 : x5_3 < (l0.length : Int) := of_decide_eq_true (by first | (with_reducible assumption) | assumption)
               obtain ⟨ad361, e361, hx361_0⟩ := Kd.at_int (Kd.C_kept_now HR0.out HK.out) x5_3 p361 q361
               obtain rfl : ad298 = ad361 := (by injection e361)
               replace p361 := eq_true p361
               replace q361 := eq_true q361
               go_wp2_with (first | ((with_reducible refine gate_builtin (b := .append) (xs := #[.tmp 158, .tmp 163]) rfl ?_); at_builtin; refine Kd.R_append (Kd.int .u8) (w0 := w0) w0.heap.size rfl (.tmp 158) (.tmp 163) 48 5 (.int .u8 0) 1 rfl Try.underlying48 info5 rfl (by decide) (by omega) u1 x1_3 (rd l0 x5_3) [.int .u8 (rd l0 x5_3)] (fun k_ => (P1_ k_ ∨ w.heap.size ≤ k_)) (fun _ => False) rfl rfl ?aP (fun _ hk => hk.elim) ?aF ?aO ?aB ?aS ?aL ?_; (case aP => exact rfl); (case aB => exact (by repeat (first | (with_reducible first | exact HB.out | apply below_alloc | apply pw_below_drewN | apply below_drew1) | exact HB.out))); (case aF => exact (fun k_ hk => (.inr (Nat.le_trans (by first | exact HK.out.1 | exact (show Kept w _ (fun k_ => P1_ k_) from by repeat (first | (with_reducible first | exact HK.out | apply Kept.alloc | apply Kept.drewN | apply Kept.drew) | exact HK.out)).1) hk)))); (case aO => exact (by (with_reducible repeat (first | apply Kd.R_alloc | apply Kd.R_drewN | apply Kd.R_drew)); exact HO_1.out)); (case aS => exact (below_size (by repeat (first | (with_reducible first | exact HB.out | apply below_alloc | apply pw_below_drewN | apply below_drew1) | exact HB.out)))); (case aL => have := LMc73.out; omega); intro v363 w75 ho hb hg hat; rw [← Ny362.out] at ho; have n0_ := Aside0.mk (hb); have n1_ := Aside0.mk (Kept.of_grown (S := (fun k_ => P1_ k_)) hg (by repeat (first | (with_reducible first | exact HK.out | apply Kept.alloc | apply Kept.drewN | apply Kept.drew) | exact HK.out)) (fun k_ e_ => (HO_1.out.1 k_ e_))); have n2_ := Aside0.mk (ho); clear HB; clear HK; clear HO_1; have HB := n0_; have HK := n1_; have HO364 := n2_; clear n0_ n1_ n2_; clear ho hb hg hat; have p365 : 0 ≤ (x5_3 : Int) := of_decide_eq_true (by first | (with_reducible assumption) | assumption); have q365 : x5_3 < (l0.length : Int) := of_decide_eq_true (by first | (with_reducible assumption) | assumption); obtain ⟨ad365, e365, hx365_0⟩ := Kd.at_int (Kd.C_kept_now HR0.out HK.out) x5_3 p365 q365; obtain rfl : ad298 = ad365 := (by injection e365); replace p365 := eq_true p365; replace q365 := eq_true q365))
               try simp only [Act.put, List.setIfInBounds_toArray, List.set_cons_succ, List.set_cons_zero]
               go_loopg [6] k3 (fun kq v6 w' => ∃ (x6_4 : Int), v6 = .int .i64 x6_4 ∧ Aside0 (pretty_spec.l4 kq l0 y362 x5_3 x6_4 = some r) ∧ Aside0 (kq ≤ k3) ∧ Aside0 (Kd.R (Kd.int .u8) 5 w' w0.heap.size (fun k_ => (P1_ k_ ∨ w.heap.size ≤ k_)) v363 y362) ∧ Aside0 (Kept w w' (fun k_ => P1_ k_)) ∧ Aside0 (Below w0.heap.size w0 w'))
               case atStart => exact ⟨(wrap64 (x5_3 - 1)), (by first | rfl | (simp; done) | (simp [nil_ne_, nil_eq_]; done) | (simp [*]; done)), H', ⟨Nat.le_refl _⟩, ⟨by (with_reducible repeat (first | apply Kd.R_alloc | apply Kd.R_drewN | apply Kd.R_drew)); exact HO364.out⟩, ⟨by repeat (first | (with_reducible first | exact HK.out | apply Kept.alloc | apply Kept.drewN | apply Kept.drew) | exact HK.out)⟩, ⟨by repeat (first | (with_reducible first | exact HB.out | apply below_alloc | apply pw_below_drewN | apply below_drew1) | exact HB.out)⟩⟩
               case round =>
                clear H'
                try clear c1
                try clear c2
                try clear p2
                try clear q2
                try clear hx2
                try clear c3
                try clear c3b0
                try clear c3b1
                try clear p3
                try clear q3
                try clear hx3
                try clear c4
                try clear c5
                try clear q5
                try clear c6
                try clear c6b0
                try clear p6
                try clear c7
                try clear c7b0
                try clear c9
                try clear c9b0
                try clear c9b1
                try clear c10
                try clear c10b0
                try clear c12
                try clear c12b0
                try clear c13
                try clear c13b0
                try clear c14
                try clear c14b0
                try clear c14b1
                try clear c15
                try clear c20
                try clear c20b0
                try clear c21
                try clear c21b0
                try clear c22
                try clear c22b0
                try clear c22b1
                try clear c23
                try clear c25
                try clear c25b0
                try clear c25b1
                try clear c26
                try clear c28
                try clear c28b0
                try clear c28b1
                try clear c29
                try clear p29
                try clear q29
                try clear hx29
                try clear p30
                try clear q30
                try clear hx30
                try clear c31
                try clear p31
                try clear q31
                try clear hx31
                try clear p32
                try clear q32
                try clear hx32
                try clear c33
                try clear c33b0
                try clear c33b1
                try clear p33
                try clear q33
                try clear hx33
                try clear c34
                try clear p34
                try clear q34
                try clear hx34
                try clear p35
                try clear q35
                try clear hx35
                try clear p36
                try clear q36
                try clear hx36
                try clear c39
                try clear c39b0
                try clear c41
                try clear c41b0
                try clear c41b1
                try clear c42
                try clear c42b0
                try clear c43
                try clear c43b0
                try clear c43b1
                try clear c44
                try clear c45
                try clear c45b0
                try clear c46
                try clear c46b0
                try clear c47
                try clear c48
                try clear c53
                try clear c53b0
                try clear c54
                try clear c54b0
                try clear c55
                try clear c55b0
                try clear c55b1
                try clear c56
                try clear c58
                try clear c58b0
                try clear c58b1
                try clear c59
                try clear c61
                try clear c61b0
                try clear c61b1
                try clear c62
                try clear c64
                try clear p64
                try clear c66
                try clear c66b0
                try clear c67
                try clear c67b0
                try clear c68
                try clear c69
                try clear c69b0
                try clear c69b1
                try clear c71
                try clear c71b0
                try clear c72
                try clear c72b0
                try clear c73
                try clear c74
                try clear c74b0
                try clear c74b1
                try clear hx298_0
                try clear hx299_0
                try clear hx306_0
                try clear hx310_0
                try clear hx311_0
                try clear hx315_0
                try clear hx316_0
                try clear hx323_0
                try clear hx330_0
                try clear hx331_0
                try clear hx338_0
                try clear hx339_0
                try clear hx343_0
                try clear hx344_0
                try clear hx348_0
                try clear hx349_0
                try clear hx356_0
                try clear hx360_0
                try clear hx361_0
                try clear hx365_0
                try clear p2
                try clear p29
                try clear p298
                try clear p299
                try clear p3
                try clear p30
                try clear p306
                try clear p31
                try clear p310
                try clear p311
                try clear p315
                try clear p316
                try clear p32
                try clear p323
                try clear p33
                try clear p330
                try clear p331
                try clear p338
                try clear p339
                try clear p34
                try clear p343
                try clear p344
                try clear p348
                try clear p349
                try clear p35
                try clear p356
                try clear p36
                try clear p360
                try clear p361
                try clear p365
                try clear p6
                try clear p64
                try clear q2
                try clear q29
                try clear q298
                try clear q299
                try clear q3
                try clear q30
                try clear q306
                try clear q31
                try clear q310
                try clear q311
                try clear q315
                try clear q316
                try clear q32
                try clear q323
                try clear q33
                try clear q330
                try clear q331
                try clear q338
                try clear q339
                try clear q34
                try clear q343
                try clear q344
                try clear q348
                try clear q349
                try clear q35
                try clear q356
                try clear q36
                try clear q360
                try clear q361
                try clear q365
                try clear q5
                obtain ⟨x6_4, rfl, HA, HK4, HO_1, HK, HB⟩ := hrel
                rcases gk with _ | k4
                · exact absurd HA.out (by simp [pretty_spec.l4])
                have H := HA.out
                clear HA
                simp only [pretty_spec.l4] at H
                by_cases c76 : 0 ≤ x6_4
                ·
                 rw [if_pos c76] at H
                 have c76b0 : decide (0 ≤ x6_4) = true := decide_eq_true c76
                 clear c76
                 by_cases c77 : x6_4 < (l0.length : Int)
                 ·
                  rw [if_pos c77] at H
                  have c77b0 : decide (x6_4 < (l0.length : Int)) = true := decide_eq_true c77
                  clear c77
                  by_cases c78 : (rd l0 x6_4) = 92
                  ·
                   rw [if_pos c78] at H
                   have c78b0 : ((rd l0 x6_4) == 92) = true := beq_iff_eq.mpr c78
                   have c78b1 : ((rd l0 x6_4) != 92) = false := bne_eq_false_iff_eq.mpr c78
                   clear c78
                   as_aux_lemma =>
                    have H' := Aside0.mk H
                    clear H
                    have p366 : 0 ≤ (x6_4 : Int) := of_decide_eq_true (by first | (with_reducible assumption) | assumption)
                    have q366 : x6_4 < (l0.length : Int) := of_decide_eq_true (by first | (with_reducible assumption) | assumption)
                    obtain ⟨ad366, e366, hx366_0⟩ := Kd.at_int (Kd.C_kept_now HR0.out HK.out) x6_4 p366 q366
                    obtain rfl : ad298 = ad366 := (by injection e366)
                    replace p366 := eq_true p366
                    replace q366 := eq_true q366
                    go_wp2
                    go_roundg k4
                    case measure => have := HK1.out; have := HJ7.out; have := HK3.out; have := HK4.out; omega
                    case rel => exact ⟨(wrap64 (x6_4 - 1)), (by first | rfl | (simp; done) | (simp [nil_ne_, nil_eq_]; done) | (simp [*]; done)), H', ⟨by have := HK1.out; have := HJ7.out; have := HK3.out; have := HK4.out; omega⟩, ⟨by (with_reducible repeat (first | apply Kd.R_alloc | apply Kd.R_drewN | apply Kd.R_drew)); exact HO_1.out⟩, ⟨by repeat (first | (with_reducible first | exact HK.out | apply Kept.alloc | apply Kept.drewN | apply Kept.drew) | exact HK.out)⟩, ⟨by repeat (first | (with_reducible first | exact HB.out | apply below_alloc | apply pw_below_drewN | apply below_drew1) | exact HB.out)⟩⟩
                  rw [if_neg c78] at H
                  have c78b0 : ((rd l0 x6_4) == 92) = false := beq_eq_false_iff_ne.mpr c78
                  have c78b1 : ((rd l0 x6_4) != 92) = true := bne_iff_ne.mpr c78
                  by_cases c79 : (Int.tmod (wrap64 (x6_4 - x5_3)) 2) = 0
                  ·
                   rw [if_pos c79] at H
                   have c79b0 : ((Int.tmod (wrap64 (x6_4 - x5_3)) 2) == 0) = true := beq_iff_eq.mpr c79
                   have c79b1 : ((Int.tmod (wrap64 (x6_4 - x5_3)) 2) != 0) = false := bne_eq_false_iff_eq.mpr c79
                   clear c79
                   as_aux_lemma =>
                    have H' := Aside0.mk H
                    clear H
                    have p366 : 0 ≤ (x6_4 : Int) := of_decide_eq_true (by first | (with_reducible assumption) | assumption)
                    have q366 : x6_4 < (l0.length : Int) := of_decide_eq_true (by first | (with_reducible assumption) | assumption)
                    obtain ⟨ad366, e366, hx366_0⟩ := Kd.at_int (Kd.C_kept_now HR0.out HK.out) x6_4 p366 q366
                    obtain rfl : ad298 = ad366 := (by injection e366)
                    replace p366 := eq_true p366
                    replace q366 := eq_true q366
                    go_wp2
                    go_roundg k4
                    case measure => have := HK1.out; have := HJ7.out; have := HK3.out; have := HK4.out; omega
                    case rel => exact ⟨(y362), (wrap64 (x5_3 + 1)), (by first | rfl | (simp; done) | (simp [nil_ne_, nil_eq_]; done) | (simp [*]; done)), H', ⟨by have := HK1.out; have := HJ7.out; have := HK3.out; have := HK4.out; omega⟩, ⟨by (with_reducible repeat (first | apply Kd.R_alloc | apply Kd.R_drewN | apply Kd.R_drew)); exact HO_1.out⟩, ⟨by repeat (first | (with_reducible first | exact HK.out | apply Kept.alloc | apply Kept.drewN | apply Kept.drew) | exact HK.out)⟩, ⟨by repeat (first | (with_reducible first | exact HB.out | apply below_alloc | apply pw_below_drewN | apply below_drew1) | exact HB.out)⟩⟩
                  rw [if_neg c79] at H
                  have c79b0 : ((Int.tmod (wrap64 (x6_4 - x5_3)) 2) == 0) = false := beq_eq_false_iff_ne.mpr c79
                  have c79b1 : ((Int.tmod (wrap64 (x6_4 - x5_3)) 2) != 0) = true := bne_iff_ne.mpr c79
                  as_aux_lemma =>
                   have H' := Aside0.mk H
                   clear H
                   have p366 : 0 ≤ (x6_4 : Int) := of_decide_eq_true (by first | (with_reducible assumption) | assumption)
                   have q366 : x6_4 < (l0.length : Int) := of_decide_eq_true (by first | (with_reducible assumption) | assumption)
                   obtain ⟨ad366, e366, hx366_0⟩ := Kd.at_int (Kd.C_kept_now HR0.out HK.out) x6_4 p366 q366
                   obtain rfl : ad298 = ad366 := (by injection e366)
                   replace p366 := eq_true p366
                   replace q366 := eq_true q366
                   go_wp2
                   go_roundg k4
                   case measure => have := HK1.out; have := HJ7.out; have := HK3.out; have := HK4.out; omega
                   case rel => exact ⟨(y362), (wrap64 (x5_3 + 1)), (by first | rfl | (simp; done) | (simp [nil_ne_, nil_eq_]; done) | (simp [*]; done)), H', ⟨by have := HK1.out; have := HJ7.out; have := HK3.out; have := HK4.out; omega⟩, ⟨by (with_reducible repeat (first | apply Kd.R_alloc | apply Kd.R_drewN | apply Kd.R_drew)); exact HO_1.out⟩, ⟨by repeat (first | (with_reducible first | exact HK.out | apply Kept.alloc | apply Kept.drewN | apply Kept.drew) | exact HK.out)⟩, ⟨by repeat (first | (with_reducible first | exact HB.out | apply below_alloc | apply pw_below_drewN | apply below_drew1) | exact HB.out)⟩⟩
                 rw [if_neg c77] at H
                 exact absurd H (by simp)
                rw [if_neg c76] at H
                exact absurd H (by simp)
              rw [if_neg c74] at H
              have c74b0 : ((rd l0 x5_3) == 34) = false := beq_eq_false_iff_ne.mpr c74
              have c74b1 : ((rd l0 x5_3) != 34) = true := bne_iff_ne.mpr c74
              as_aux_lemma =>
               have H' := Aside0.mk H
               clear H
               have p361 : 0 ≤ (x5_3 : Int) := of_decide_eq_true (by first | (with_reducible assumption) | assumption)
               have q361 : x5_3 < (l0.length : Int) := of_decide_eq_true (by first | (with_reducible assumption) | assumption)
               obtain ⟨ad361, e361, hx361_0⟩ := Kd.at_int (Kd.C_kept_now HR0.out HK.out) x5_3 p361 q361
               obtain rfl : ad298 = ad361 := (by injection e361)
               replace p361 := eq_true p361
               replace q361 := eq_true q361
               go_wp2_with (first | ((with_reducible refine gate_builtin (b := .append) (xs := #[.tmp 158, .tmp 163]) rfl ?_); at_builtin; refine Kd.R_append (Kd.int .u8) (w0 := w0) w0.heap.size rfl (.tmp 158) (.tmp 163) 48 5 (.int .u8 0) 1 rfl Try.underlying48 info5 rfl (by decide) (by omega) u1 x1_3 (rd l0 x5_3) [.int .u8 (rd l0 x5_3)] (fun k_ => (P1_ k_ ∨ w.heap.size ≤ k_)) (fun _ => False) rfl rfl ?aP (fun _ hk => hk.elim) ?aF ?aO ?aB ?aS ?aL ?_; (case aP => exact rfl); (case aB => exact (by repeat (first | (with_reducible first | exact HB.out | apply below_alloc | apply pw_below_drewN | apply below_drew1) | exact HB.out))); (case aF => exact (fun k_ hk => (.inr (Nat.le_trans (by first | exact HK.out.1 | exact (show Kept w _ (fun k_ => P1_ k_) from by repeat (first | (with_reducible first | exact HK.out | apply Kept.alloc | apply Kept.drewN | apply Kept.drew) | exact HK.out)).1) hk)))); (case aO => exact (by (with_reducible repeat (first | apply Kd.R_alloc | apply Kd.R_drewN | apply Kd.R_drew)); exact HO_1.out)); (case aS => exact (below_size (by repeat (first | (with_reducible first | exact HB.out | apply below_alloc | apply pw_below_drewN | apply below_drew1) | exact HB.out)))); (case aL => have := LMc73.out; omega); intro v363 w80 ho hb hg hat; rw [← Ny362.out] at ho; have n0_ := Aside0.mk (hb); have n1_ := Aside0.mk (Kept.of_grown (S := (fun k_ => P1_ k_)) hg (by repeat (first | (with_reducible first | exact HK.out | apply Kept.alloc | apply Kept.drewN | apply Kept.drew) | exact HK.out)) (fun k_ e_ => (HO_1.out.1 k_ e_))); have n2_ := Aside0.mk (ho); clear HB; clear HK; clear HO_1; have HB := n0_; have HK := n1_; have HO364 := n2_; clear n0_ n1_ n2_; clear ho hb hg hat; have p365 : 0 ≤ (x5_3 : Int) := of_decide_eq_true (by first | (with_reducible assumption) | assumption); have q365 : x5_3 < (l0.length : Int) := of_decide_eq_true (by first | (with_reducible assumption) | assumption); obtain ⟨ad365, e365, hx365_0⟩ := Kd.at_int (Kd.C_kept_now HR0.out HK.out) x5_3 p365 q365; obtain rfl : ad298 = ad365 := (by injection e365); replace p365 := eq_true p365; replace q365 := eq_true q365))
               go_roundg k3
               case measure => have := HK1.out; have := HJ7.out; have := HK3.out; omega
               case rel => exact ⟨(y362), (wrap64 (x5_3 + 1)), (by first | rfl | (simp; done) | (simp [nil_ne_, nil_eq_]; done) | (simp [*]; done)), H', ⟨by have := HK1.out; have := HJ7.out; have := HK3.out; omega⟩, ⟨by (with_reducible repeat (first | apply Kd.R_alloc | apply Kd.R_drewN | apply Kd.R_drew)); exact HO364.out⟩, ⟨by repeat (first | (with_reducible first | exact HK.out | apply Kept.alloc | apply Kept.drewN | apply Kept.drew) | exact HK.out)⟩, ⟨by repeat (first | (with_reducible first | exact HB.out | apply below_alloc | apply pw_below_drewN | apply below_drew1) | exact HB.out)⟩⟩
             rw [if_neg c73] at H
             exact absurd H (by simp)
            rw [if_neg c72] at H
            exact absurd H (by simp)
           rw [if_neg c71] at H
           have c71b0 : decide (x5_3 < (l0.length : Int)) = false := decide_eq_false c71
           clear c71
           as_aux_lemma =>
            have H' := Aside0.mk H
            clear H
            go_wp2
            go_roundg k3
            case measure => have := HK1.out; have := HJ7.out; have := HK3.out; omega
            case rel => exact ⟨(x1_3), (wrap64 (x5_3 + 1)), (by first | rfl | (simp; done) | (simp [nil_ne_, nil_eq_]; done) | (simp [*]; done)), H', ⟨by have := HK1.out; have := HJ7.out; have := HK3.out; omega⟩, ⟨by (with_reducible repeat (first | apply Kd.R_alloc | apply Kd.R_drewN | apply Kd.R_drew)); exact HO_1.out⟩, ⟨by repeat (first | (with_reducible first | exact HK.out | apply Kept.alloc | apply Kept.drewN | apply Kept.drew) | exact HK.out)⟩, ⟨by repeat (first | (with_reducible first | exact HB.out | apply below_alloc | apply pw_below_drewN | apply below_drew1) | exact HB.out)⟩⟩
         rw [if_neg c69] at H
         have c69b0 : ((rd l0 x5_7) == 34) = false := beq_eq_false_iff_ne.mpr c69
         have c69b1 : ((rd l0 x5_7) != 34) = true := bne_iff_ne.mpr c69
         have HC81 := Aside0.mk H
         clear H
         have p356 : 0 ≤ (x5_7 : Int) := of_decide_eq_true (by first | (with_reducible assumption) | assumption)
         have q356 : x5_7 < (l0.length : Int) := of_decide_eq_true (by first | (with_reducible assumption) | assumption)
         obtain ⟨ad356, e356, hx356_0⟩ := Kd.at_int (Kd.C_kept_now HR0.out HK.out) x5_7 p356 q356
         obtain rfl : ad298 = ad356 := (by injection e356)
         replace p356 := eq_true p356
         replace q356 := eq_true q356
         go_upto_region 39 with (first | ((with_reducible refine gate_builtin (b := .append) (xs := #[.tmp 138, .tmp 143]) rfl ?_); at_builtin; refine Kd.R_append (Kd.int .u8) (w0 := w0) w0.heap.size rfl (.tmp 138) (.tmp 143) 48 5 (.int .u8 0) 1 rfl Try.underlying48 info5 rfl (by decide) (by omega) u1 x1_7 (rd l0 x5_7) [.int .u8 (rd l0 x5_7)] (fun k_ => (P1_ k_ ∨ w.heap.size ≤ k_)) (fun _ => False) rfl rfl ?aP (fun _ hk => hk.elim) ?aF ?aO ?aB ?aS ?aL ?_; (case aP => exact rfl); (case aB => exact (by repeat (first | (with_reducible first | exact HB.out | apply below_alloc | apply pw_below_drewN | apply below_drew1) | exact HB.out))); (case aF => exact (fun k_ hk => (.inr (Nat.le_trans (by first | exact HK.out.1 | exact (show Kept w _ (fun k_ => P1_ k_) from by repeat (first | (with_reducible first | exact HK.out | apply Kept.alloc | apply Kept.drewN | apply Kept.drew) | exact HK.out)).1) hk)))); (case aO => exact (by (with_reducible repeat (first | apply Kd.R_alloc | apply Kd.R_drewN | apply Kd.R_drew)); exact HO_1.out)); (case aS => exact (below_size (by repeat (first | (with_reducible first | exact HB.out | apply below_alloc | apply pw_below_drewN | apply below_drew1) | exact HB.out)))); (case aL => have := LMc68.out; omega); intro v358 w82 ho hb hg hat; rw [← Ny357.out] at ho; have n0_ := Aside0.mk (hb); have n1_ := Aside0.mk (Kept.of_grown (S := (fun k_ => P1_ k_)) hg (by repeat (first | (with_reducible first | exact HK.out | apply Kept.alloc | apply Kept.drewN | apply Kept.drew) | exact HK.out)) (fun k_ e_ => (HO_1.out.1 k_ e_))); have n2_ := Aside0.mk (ho); clear HB; clear HK; clear HO_1; have HB := n0_; have HK := n1_; have HO359 := n2_; clear n0_ n1_ n2_; clear ho hb hg hat; have p360 : 0 ≤ (x5_7 : Int) := of_decide_eq_true (by first | (with_reducible assumption) | assumption); have q360 : x5_7 < (l0.length : Int) := of_decide_eq_true (by first | (with_reducible assumption) | assumption); obtain ⟨ad360, e360, hx360_0⟩ := Kd.at_int (Kd.C_kept_now HR0.out HK.out) x5_7 p360 q360; obtain rfl : ad298 = ad360 := (by injection e360); replace p360 := eq_true p360; replace q360 := eq_true q360))
         (try simp only [Act.put, List.setIfInBounds_toArray, List.set_cons_zero, List.set_cons_succ])
         go_cut [195] (fun v195 wc => ∃ (kq : Nat) (x195_80 : Bool), v195 = .bool x195_80 ∧ Aside0 (pretty_spec.j7 kq l0 y357 x5_7 x195_80 = some r) ∧ Aside0 (kq ≤ kj7) ∧ Aside0 (Kd.R (Kd.int .u8) 5 wc w0.heap.size (fun k_ => (P1_ k_ ∨ w.heap.size ≤ k_)) v358 y357) ∧ Aside0 (Kept w wc (fun k_ => P1_ k_)) ∧ Aside0 (Below w0.heap.size w0 wc))
         case first => as_aux_lemma =>
          have H := HC81.out
          clear HC81
          by_cases c83 : (rd l0 x5_7) = 125
          ·
           rw [if_pos c83] at H
           have c83b0 : ((rd l0 x5_7) == 125) = true := beq_iff_eq.mpr c83
           have c83b1 : ((rd l0 x5_7) != 125) = false := bne_eq_false_iff_eq.mpr c83
           clear c83
           (first | rw [c83b0] | (simp only [i64_w, i32_w]; rw [c83b0]) | rw [c83b1] | skip)
           as_aux_lemma =>
            have H' := Aside0.mk H
            clear H
            have p367 : 0 ≤ (x5_7 : Int) := of_decide_eq_true (by first | (with_reducible assumption) | assumption)
            have q367 : x5_7 < (l0.length : Int) := of_decide_eq_true (by first | (with_reducible assumption) | assumption)
            obtain ⟨ad367, e367, hx367_0⟩ := Kd.at_int (Kd.C_kept_now HR0.out HK.out) x5_7 p367 q367
            obtain rfl : ad298 = ad367 := (by injection e367)
            replace p367 := eq_true p367
            replace q367 := eq_true q367
            go_wp2
            go_meet
            case rel => exact ⟨_, (true), (by first | rfl | (simp; done) | (simp [nil_ne_, nil_eq_]; done) | (simp [*]; done)), H', ⟨by have := HK1.out; have := HJ7.out; first | omega | exact Nat.le_refl _⟩, ⟨by (with_reducible repeat (first | apply Kd.R_alloc | apply Kd.R_drewN | apply Kd.R_drew)); exact HO359.out⟩, ⟨by repeat (first | (with_reducible first | exact HK.out | apply Kept.alloc | apply Kept.drewN | apply Kept.drew) | exact HK.out)⟩, ⟨by repeat (first | (with_reducible first | exact HB.out | apply below_alloc | apply pw_below_drewN | apply below_drew1) | exact HB.out)⟩⟩
          rw [if_neg c83] at H
          have c83b0 : ((rd l0 x5_7) == 125) = false := beq_eq_false_iff_ne.mpr c83
          have c83b1 : ((rd l0 x5_7) != 125) = true := bne_iff_ne.mpr c83
          (first | rw [c83b0] | (simp only [i64_w, i32_w]; rw [c83b0]) | rw [c83b1] | skip)
          as_aux_lemma =>
           have H' := Aside0.mk H
           clear H
           have p367 : 0 ≤ (x5_7 : Int) := of_decide_eq_true (by first | (with_reducible assumption) | assumption)
           have q367 : x5_7 < (l0.length : Int) := of_decide_eq_true (by first | (with_reducible assumption) | assumption)
           obtain ⟨ad367, e367, hx367_0⟩ := Kd.at_int (Kd.C_kept_now HR0.out HK.out) x5_7 p367 q367
           obtain rfl : ad298 = ad367 := (by injection e367)
           replace p367 := eq_true p367
           replace q367 := eq_true q367
           have p368 : 0 ≤ (x5_7 : Int) := of_decide_eq_true (by first | (with_reducible assumption) | assumption)
           have q368 : x5_7 < (l0.length : Int) := of_decide_eq_true (by first | (with_reducible assumption) | assumption)
           obtain ⟨ad368, e368, hx368_0⟩ := Kd.at_int (Kd.C_kept_now HR0.out HK.out) x5_7 p368 q368
           obtain rfl : ad298 = ad368 := (by injection e368)
           replace p368 := eq_true p368
           replace q368 := eq_true q368
           go_wp2
           go_meet
           case rel => exact ⟨_, (((rd l0 x5_7) == 93)), (by first | rfl | (simp; done) | (simp [nil_ne_, nil_eq_]; done) | (simp [*]; done)), H', ⟨by have := HK1.out; have := HJ7.out; first | omega | exact Nat.le_refl _⟩, ⟨by (with_reducible repeat (first | apply Kd.R_alloc | apply Kd.R_drewN | apply Kd.R_drew)); exact HO359.out⟩, ⟨by repeat (first | (with_reducible first | exact HK.out | apply Kept.alloc | apply Kept.drewN | apply Kept.drew) | exact HK.out)⟩, ⟨by repeat (first | (with_reducible first | exact HB.out | apply below_alloc | apply pw_below_drewN | apply below_drew1) | exact HB.out)⟩⟩
         case rest => as_aux_lemma =>
          clear HC81
          try clear c1
          try clear c2
          try clear p2
          try clear q2
          try clear hx2
          try clear c3
          try clear c3b0
          try clear c3b1
          try clear p3
          try clear q3
          try clear hx3
          try clear c4
          try clear c5
          try clear q5
          try clear c6
          try clear c6b0
          try clear p6
          try clear c7
          try clear c7b0
          try clear c8
          try clear c9
          try clear c9b0
          try clear c9b1
          try clear c10
          try clear c10b0
          try clear c12
          try clear c12b0
          try clear c13
          try clear c13b0
          try clear c14
          try clear c14b0
          try clear c14b1
          try clear c15
          try clear c20
          try clear c20b0
          try clear c21
          try clear c21b0
          try clear c22
          try clear c22b0
          try clear c22b1
          try clear c23
          try clear c25
          try clear c25b0
          try clear c25b1
          try clear c26
          try clear c28
          try clear c28b0
          try clear c28b1
          try clear c29
          try clear p29
          try clear q29
          try clear hx29
          try clear p30
          try clear q30
          try clear hx30
          try clear c31
          try clear p31
          try clear q31
          try clear hx31
          try clear p32
          try clear q32
          try clear hx32
          try clear c33
          try clear c33b0
          try clear c33b1
          try clear p33
          try clear q33
          try clear hx33
          try clear c34
          try clear p34
          try clear q34
          try clear hx34
          try clear p35
          try clear q35
          try clear hx35
          try clear p36
          try clear q36
          try clear hx36
          try clear c39
          try clear c39b0
          try clear c41
          try clear c41b0
          try clear c41b1
          try clear c42
          try clear c42b0
          try clear c43
          try clear c43b0
          try clear c43b1
          try clear c44
          try clear c45
          try clear c45b0
          try clear c46
          try clear c46b0
          try clear c47
          try clear c48
          try clear c53
          try clear c53b0
          try clear c54
          try clear c54b0
          try clear c55
          try clear c55b0
          try clear c55b1
          try clear c56
          try clear c58
          try clear c58b0
          try clear c58b1
          try clear c59
          try clear c61
          try clear c61b0
          try clear c61b1
          try clear c62
          try clear c64
          try clear p64
          try clear c66
          try clear c66b0
          try clear c67
          try clear c67b0
          try clear c68
          try clear c69
          try clear c69b0
          try clear c69b1
          try clear c71
          try clear c71b0
          try clear c72
          try clear c72b0
          try clear c73
          try clear c74
          try clear c74b0
          try clear c74b1
          try clear c76
          try clear c76b0
          try clear c77
          try clear c77b0
          try clear c78
          try clear c78b0
          try clear c78b1
          try clear c79
          try clear c79b0
          try clear c79b1
          try clear c83
          try clear c83b0
          try clear c83b1
          try clear hx298_0
          try clear hx299_0
          try clear hx306_0
          try clear hx310_0
          try clear hx311_0
          try clear hx315_0
          try clear hx316_0
          try clear hx323_0
          try clear hx330_0
          try clear hx331_0
          try clear hx338_0
          try clear hx339_0
          try clear hx343_0
          try clear hx344_0
          try clear hx348_0
          try clear hx349_0
          try clear hx356_0
          try clear hx360_0
          try clear hx361_0
          try clear hx365_0
          try clear hx366_0
          try clear hx367_0
          try clear hx368_0
          try clear p2
          try clear p29
          try clear p298
          try clear p299
          try clear p3
          try clear p30
          try clear p306
          try clear p31
          try clear p310
          try clear p311
          try clear p315
          try clear p316
          try clear p32
          try clear p323
          try clear p33
          try clear p330
          try clear p331
          try clear p338
          try clear p339
          try clear p34
          try clear p343
          try clear p344
          try clear p348
          try clear p349
          try clear p35
          try clear p356
          try clear p36
          try clear p360
          try clear p361
          try clear p365
          try clear p366
          try clear p367
          try clear p368
          try clear p6
          try clear p64
          try clear q2
          try clear q29
          try clear q298
          try clear q299
          try clear q3
          try clear q30
          try clear q306
          try clear q31
          try clear q310
          try clear q311
          try clear q315
          try clear q316
          try clear q32
          try clear q323
          try clear q33
          try clear q330
          try clear q331
          try clear q338
          try clear q339
          try clear q34
          try clear q343
          try clear q344
          try clear q348
          try clear q349
          try clear q35
          try clear q356
          try clear q36
          try clear q360
          try clear q361
          try clear q365
          try clear q366
          try clear q367
          try clear q368
          try clear q5
          obtain ⟨kq, x195_80, rfl, HA, HJ80, HO_1, HK, HB⟩ := hcut
          rcases kq with _ | kj80
          · exact absurd HA.out (by simp [pretty_spec.j7])
          have H := HA.out
          clear HA
          simp only [pretty_spec.j7] at H
          by_cases c84 : x195_80 = true
          ·
           subst c84
           have H1 : (pretty_spec.l5 kj80 l0 y357 x5_7 (wrap64 ((y357.length : Int) - 2))) = some r := by rw [if_pos rfl] at H; exact H
           clear H
           have H := H1
           clear H1
           have H' := Aside0.mk H
           clear H
           obtain ⟨Ao85, co85, eo85⟩ := Kd.R_slice HO_1.out
           subst eo85
           go_wp2
           try simp only [Act.put, List.setIfInBounds_toArray, List.set_cons_succ, List.set_cons_zero]
           go_loopg [7] kj80 (fun kq v7 w' => ∃ (x1_4 : List Int) (x7_4 : Int), v7 = .int .i64 x7_4 ∧ Aside0 (pretty_spec.l5 kq l0 x1_4 x5_7 x7_4 = some r) ∧ Aside0 (kq ≤ kj80) ∧ Aside0 (Kd.R (Kd.int .u8) 5 w' w0.heap.size (fun k_ => (P1_ k_ ∨ w.heap.size ≤ k_)) (.slice Ao85 y357.length co85) x1_4) ∧ Aside0 (Kept w w' (fun k_ => P1_ k_)) ∧ Aside0 (Below w0.heap.size w0 w'))
           case atStart => exact ⟨(y357), (wrap64 ((y357.length : Int) - 2)), (by first | rfl | (simp; done) | (simp [nil_ne_, nil_eq_]; done) | (simp [*]; done)), H', ⟨Nat.le_refl _⟩, ⟨by (with_reducible repeat (first | apply Kd.R_alloc | apply Kd.R_drewN | apply Kd.R_drew)); exact HO_1.out⟩, ⟨by repeat (first | (with_reducible first | exact HK.out | apply Kept.alloc | apply Kept.drewN | apply Kept.drew) | exact HK.out)⟩, ⟨by repeat (first | (with_reducible first | exact HB.out | apply below_alloc | apply pw_below_drewN | apply below_drew1) | exact HB.out)⟩⟩
           case round =>
            clear H'
            try clear c1
            try clear c2
            try clear p2
            try clear q2
            try clear hx2
            try clear c3
            try clear c3b0
            try clear c3b1
            try clear p3
            try clear q3
            try clear hx3
            try clear c4
            try clear c5
            try clear q5
            try clear c6
            try clear c6b0
            try clear p6
            try clear c7
            try clear c7b0
            try clear c8
            try clear c9
            try clear c9b0
            try clear c9b1
            try clear c10
            try clear c10b0
            try clear c12
            try clear c12b0
            try clear c13
            try clear c13b0
            try clear c14
            try clear c14b0
            try clear c14b1
            try clear c15
            try clear c20
            try clear c20b0
            try clear c21
            try clear c21b0
            try clear c22
            try clear c22b0
            try clear c22b1
            try clear c23
            try clear c25
            try clear c25b0
            try clear c25b1
            try clear c26
            try clear c28
            try clear c28b0
            try clear c28b1
            try clear c29
            try clear p29
            try clear q29
            try clear hx29
            try clear p30
            try clear q30
            try clear hx30
            try clear c31
            try clear p31
            try clear q31
            try clear hx31
            try clear p32
            try clear q32
            try clear hx32
            try clear c33
            try clear c33b0
            try clear c33b1
            try clear p33
            try clear q33
            try clear hx33
            try clear c34
            try clear p34
            try clear q34
            try clear hx34
            try clear p35
            try clear q35
            try clear hx35
            try clear p36
            try clear q36
            try clear hx36
            try clear c39
            try clear c39b0
            try clear c41
            try clear c41b0
            try clear c41b1
            try clear c42
            try clear c42b0
            try clear c43
            try clear c43b0
            try clear c43b1
            try clear c44
            try clear c45
            try clear c45b0
            try clear c46
            try clear c46b0
            try clear c47
            try clear c48
            try clear c53
            try clear c53b0
            try clear c54
            try clear c54b0
            try clear c55
            try clear c55b0
            try clear c55b1
            try clear c56
            try clear c58
            try clear c58b0
            try clear c58b1
            try clear c59
            try clear c61
            try clear c61b0
            try clear c61b1
            try clear c62
            try clear c64
            try clear p64
            try clear c66
            try clear c66b0
            try clear c67
            try clear c67b0
            try clear c68
            try clear c69
            try clear c69b0
            try clear c69b1
            try clear c71
            try clear c71b0
            try clear c72
            try clear c72b0
            try clear c73
            try clear c74
            try clear c74b0
            try clear c74b1
            try clear c76
            try clear c76b0
            try clear c77
            try clear c77b0
            try clear c78
            try clear c78b0
            try clear c78b1
            try clear c79
            try clear c79b0
            try clear c79b1
            try clear c83
            try clear c83b0
            try clear c83b1
            try clear c84
            try clear hx298_0
            try clear hx299_0
            try clear hx306_0
            try clear hx310_0
            try clear hx311_0
            try clear hx315_0
            try clear hx316_0
            try clear hx323_0
            try clear hx330_0
            try clear hx331_0
            try clear hx338_0
            try clear hx339_0
            try clear hx343_0
            try clear hx344_0
            try clear hx348_0
            try clear hx349_0
            try clear hx356_0
            try clear hx360_0
            try clear hx361_0
            try clear hx365_0
            try clear hx366_0
            try clear hx367_0
            try clear hx368_0
            try clear p2
            try clear p29
            try clear p298
            try clear p299
            try clear p3
            try clear p30
            try clear p306
            try clear p31
            try clear p310
            try clear p311
            try clear p315
            try clear p316
            try clear p32
            try clear p323
            try clear p33
            try clear p330
            try clear p331
            try clear p338
            try clear p339
            try clear p34
            try clear p343
            try clear p344
            try clear p348
            try clear p349
            try clear p35
            try clear p356
            try clear p36
            try clear p360
            try clear p361
            try clear p365
            try clear p366
            try clear p367
            try clear p368
            try clear p6
            try clear p64
            try clear q2
            try clear q29
            try clear q298
            try clear q299
            try clear q3
            try clear q30
            try clear q306
            try clear q31
            try clear q310
            try clear q311
            try clear q315
            try clear q316
            try clear q32
            try clear q323
            try clear q33
            try clear q330
            try clear q331
            try clear q338
            try clear q339
            try clear q34
            try clear q343
            try clear q344
            try clear q348
            try clear q349
            try clear q35
            try clear q356
            try clear q36
            try clear q360
            try clear q361
            try clear q365
            try clear q366
            try clear q367
            try clear q368
            try clear q5
            obtain ⟨x1_4, x7_4, rfl, HA, HK4, HO_1, HK, HB⟩ := hrel
            have hl1_4 := (Kd.R_reads' HO_1.out).1
            rw [hl1_4] at HO_1
            (try simp only [hl1_4])
            rcases gk with _ | k4
            · exact absurd HA.out (by simp [pretty_spec.l5])
            have H := HA.out
            clear HA
            simp only [pretty_spec.l5] at H
            by_cases c86 : x7_4 ≥ 0
            ·
             rw [if_pos c86] at H
             have c86b0 : decide (0 ≤ x7_4) = true := decide_eq_true c86
             clear c86
             by_cases c87 : 0 ≤ x7_4
             ·
              rw [if_pos c87] at H
              have c87b0 : decide (0 ≤ x7_4) = true := decide_eq_true c87
              clear c87
              by_cases c88 : x7_4 < (x1_4.length : Int)
              ·
               rw [if_pos c88] at H
               have c88b0 : decide (x7_4 < (x1_4.length : Int)) = true := decide_eq_true c88
               clear c88
               by_cases c89 : (rd x1_4 x7_4) ≤ 32
               ·
                rw [if_pos c89] at H
                have c89b0 : decide ((rd x1_4 x7_4) ≤ 32) = true := decide_eq_true c89
                clear c89
                as_aux_lemma =>
                 have H' := Aside0.mk H
                 clear H
                 have p369 : 0 ≤ (x7_4 : Int) := of_decide_eq_true (by first | (with_reducible assumption) | assumption)
                 have q369 : x7_4 < (x1_4.length : Int) := of_decide_eq_true (by first | (with_reducible assumption) | assumption)
                 obtain ⟨ad369, e369, hx369_0⟩ := Kd.at_int (Kd.R_reads' HO_1.out).2.2 x7_4 p369 q369
                 cases e369
                 replace p369 := eq_true p369
                 replace q369 := eq_true q369
                 go_wp2
                 (try simp only [← hl1_4])
                 go_roundg k4
                 case measure => have := HK1.out; have := HJ7.out; have := HJ80.out; have := HK4.out; omega
                 case rel => exact ⟨(x1_4), (wrap64 (x7_4 - 1)), (by first | rfl | (simp; done) | (simp [nil_ne_, nil_eq_]; done) | (simp [*]; done)), H', ⟨by have := HK1.out; have := HJ7.out; have := HJ80.out; have := HK4.out; omega⟩, ⟨by (try simp only [hl1_4]); (with_reducible repeat (first | apply Kd.R_alloc | apply Kd.R_drewN | apply Kd.R_drew)); exact HO_1.out⟩, ⟨by repeat (first | (with_reducible first | exact HK.out | apply Kept.alloc | apply Kept.drewN | apply Kept.drew) | exact HK.out)⟩, ⟨by repeat (first | (with_reducible first | exact HB.out | apply below_alloc | apply pw_below_drewN | apply below_drew1) | exact HB.out)⟩⟩
               rw [if_neg c89] at H
               have c89b0 : decide ((rd x1_4 x7_4) ≤ 32) = false := decide_eq_false c89
               clear c89
               by_cases c90 : (rd x1_4 x7_4) = 44
               ·
                rw [if_pos c90] at H
                have c90b0 : ((rd x1_4 x7_4) == 44) = true := beq_iff_eq.mpr c90
                have c90b1 : ((rd x1_4 x7_4) != 44) = false := bne_eq_false_iff_eq.mpr c90
                clear c90
                obtain ⟨y371, hy371⟩ : ∃ y_ : List Int, y_ = (x1_4.set (x7_4 : Int).toNat 32) := ⟨_, rfl⟩
                replace H : (pretty_spec.l0 k4 l0 y371 (wrap64 (x5_7 + 1))) = some r := by first | (rw [hy371]; with_reducible exact H) | (have H2_ := (Option.bind_some _ _).symm.trans H; rw [hy371]; with_reducible exact H2_) | (have H2_ := (Option.bind_some _ _).symm.trans H; with_reducible exact H2_) | with_reducible exact H | (rw [hy371]; exact H) | exact H
                have Ny371 := Aside0.mk hy371
                clear hy371
                as_aux_lemma =>
                 have H' := Aside0.mk H
                 clear H
                 have p369 : 0 ≤ (x7_4 : Int) := of_decide_eq_true (by first | (with_reducible assumption) | assumption)
                 have q369 : x7_4 < (x1_4.length : Int) := of_decide_eq_true (by first | (with_reducible assumption) | assumption)
                 obtain ⟨ad369, e369, hx369_0⟩ := Kd.at_int (Kd.R_reads' HO_1.out).2.2 x7_4 p369 q369
                 cases e369
                 replace p369 := eq_true p369
                 replace q369 := eq_true q369
                 have p370 : 0 ≤ (x7_4 : Int) := of_decide_eq_true (by first | (with_reducible assumption) | assumption)
                 have q370 : x7_4 < (x1_4.length : Int) := of_decide_eq_true (by first | (with_reducible assumption) | assumption)
                 obtain ⟨ad370, e370, hx370_0⟩ := Kd.at_int (Kd.R_reads' HO_1.out).2.2 x7_4 p370 q370
                 obtain rfl : ad369 = ad370 := (by injection e370)
                 replace p370 := eq_true p370
                 replace q370 := eq_true q370
                 have p91 : 0 ≤ (x7_4 : Int) := of_decide_eq_true (by first | (with_reducible assumption) | assumption)
                 have q91 : (x7_4 : Int) < ((x1_4.length : Int) : Int) := of_decide_eq_true (by first | (with_reducible assumption) | assumption)
                 obtain ⟨go91, co91, eo91, gb91, gl91, cl91, HG91⟩ := Kd.R_form HO_1.out (by omega)
                 (first | cases eo91 | (injection eo91 with ea_ en_ ec_; (first | subst ea_ | (injection ea_ with ea_; subst ea_)); subst ec_; clear en_))
                 have GB91 := Aside0.mk gb91
                 have GG91 := Aside0.mk HG91
                 clear gb91 gl91 HG91
                 have HMgo91 := Aside0.mk (show (P1_ go91 ∨ w.heap.size ≤ go91) from (HO_1.out.1 _ rfl))
                 (first | simp only [add_plain] at hx369_0 | skip)
                 (first | simp only [add_plain] at hx370_0 | skip)
                 obtain ⟨hx91_0, hf91_0⟩ := Kd.R_celln 0 HO_1.out (x7_4 : Int) p91 q91
                 replace p91 := eq_true p91
                 replace q91 := eq_true q91
                 have HP92 := Kd.R_putg HO_1.out (x7_4 : Int) 32
                 go_wp2_with (first | ((with_reducible refine gate_store (t := 5) (p := 215) rfl ?_); refine store_event (t := 5) (p := 215) (v := ?vo_w93) (w1 := (wr.setCell ⟨go91, (x7_4 : Int).toNat, none⟩ (.int .u8 32))) ?hg ?ho ?hn ?hr ?_; (case ho => rfl); (case hg => rfl); (case hn => rfl); (case hr => first | (go_simp; done) | (go_simp; rfl)); intro w93 hw; have hg : wr.grownBy w93 (some go91) := (by rw [hw]; exact HP92.2); have hp_ : Kd.R (Kd.int .u8) 5 w93 w0.heap.size (fun k_ => (P1_ k_ ∨ w.heap.size ≤ k_)) (.slice (some ⟨go91, 0, none⟩) x1_4.length co85) y371 := (by rw [hw, Ny371.out]; exact HP92.1); clear HP92; have n0_ := Aside0.mk (hp_); have n1_ := Aside0.mk ((by rw [hw]; exact below_set (HB.out) GB91.out : Below w0.heap.size w0 w93)); have n2_ := Aside0.mk (Kept.of_grown (S := (fun k_ => P1_ k_)) hg (by repeat (first | (with_reducible first | exact HK.out | apply Kept.alloc | apply Kept.drewN | apply Kept.drew) | exact HK.out)) (fun k_ e_ => (HO_1.out.1 k_ e_))); clear HO_1; clear HB; clear HK; have HO_1 := n0_; have HB := n1_; have HK := n2_; clear n0_ n1_ n2_; clear hg hw hp_))
                 (try simp only [← hl1_4])
                 go_roundg k4
                 case measure => have := HK1.out; have := HJ7.out; have := HJ80.out; have := HK4.out; omega
                 case rel => exact ⟨(y371), (wrap64 (x5_7 + 1)), (by first | rfl | (simp; done) | (simp [nil_ne_, nil_eq_]; done) | (simp [*]; done)), H', ⟨by have := HK1.out; have := HJ7.out; have := HJ80.out; have := HK4.out; omega⟩, ⟨by (try simp only [hl1_4]); (with_reducible repeat (first | apply Kd.R_alloc | apply Kd.R_drewN | apply Kd.R_drew)); exact HO_1.out⟩, ⟨by repeat (first | (with_reducible first | exact HK.out | apply Kept.alloc | apply Kept.drewN | apply Kept.drew) | exact HK.out)⟩, ⟨by repeat (first | (with_reducible first | exact HB.out | apply below_alloc | apply pw_below_drewN | apply below_drew1) | exact HB.out)⟩⟩
               rw [if_neg c90] at H
               have c90b0 : ((rd x1_4 x7_4) == 44) = false := beq_eq_false_iff_ne.mpr c90
               have c90b1 : ((rd x1_4 x7_4) != 44) = true := bne_iff_ne.mpr c90
               as_aux_lemma =>
                have H' := Aside0.mk H
                clear H
                have p369 : 0 ≤ (x7_4 : Int) := of_decide_eq_true (by first | (with_reducible assumption) | assumption)
                have q369 : x7_4 < (x1_4.length : Int) := of_decide_eq_true (by first | (with_reducible assumption) | assumption)
                obtain ⟨ad369, e369, hx369_0⟩ := Kd.at_int (Kd.R_reads' HO_1.out).2.2 x7_4 p369 q369
                cases e369
                replace p369 := eq_true p369
                replace q369 := eq_true q369
                have p370 : 0 ≤ (x7_4 : Int) := of_decide_eq_true (by first | (with_reducible assumption) | assumption)
                have q370 : x7_4 < (x1_4.length : Int) := of_decide_eq_true (by first | (with_reducible assumption) | assumption)
                obtain ⟨ad370, e370, hx370_0⟩ := Kd.at_int (Kd.R_reads' HO_1.out).2.2 x7_4 p370 q370
                obtain rfl : ad369 = ad370 := (by injection e370)
                replace p370 := eq_true p370
                replace q370 := eq_true q370
                go_wp2
                (try simp only [← hl1_4])
                go_roundg k4
                case measure => have := HK1.out; have := HJ7.out; have := HJ80.out; have := HK4.out; omega
                case rel => exact ⟨(x1_4), (wrap64 (x5_7 + 1)), (by first | rfl | (simp; done) | (simp [nil_ne_, nil_eq_]; done) | (simp [*]; done)), H', ⟨by have := HK1.out; have := HJ7.out; have := HJ80.out; have := HK4.out; omega⟩, ⟨by (try simp only [hl1_4]); (with_reducible repeat (first | apply Kd.R_alloc | apply Kd.R_drewN | apply Kd.R_drew)); exact HO_1.out⟩, ⟨by repeat (first | (with_reducible first | exact HK.out | apply Kept.alloc | apply Kept.drewN | apply Kept.drew) | exact HK.out)⟩, ⟨by repeat (first | (with_reducible first | exact HB.out | apply below_alloc | apply pw_below_drewN | apply below_drew1) | exact HB.out)⟩⟩
              rw [if_neg c88] at H
              exact absurd H (by simp)
             rw [if_neg c87] at H
             exact absurd H (by simp)
            rw [if_neg c86] at H
            have c86b0 : decide (0 ≤ x7_4) = false := decide_eq_false c86
            clear c86
            as_aux_lemma =>
             have H' := Aside0.mk H
             clear H
             go_wp2
             (try simp only [← hl1_4])
             go_roundg k4
             case measure => have := HK1.out; have := HJ7.out; have := HJ80.out; have := HK4.out; omega
             case rel => exact ⟨(x1_4), (wrap64 (x5_7 + 1)), (by first | rfl | (simp; done) | (simp [nil_ne_, nil_eq_]; done) | (simp [*]; done)), H', ⟨by have := HK1.out; have := HJ7.out; have := HJ80.out; have := HK4.out; omega⟩, ⟨by (try simp only [hl1_4]); (with_reducible repeat (first | apply Kd.R_alloc | apply Kd.R_drewN | apply Kd.R_drew)); exact HO_1.out⟩, ⟨by repeat (first | (with_reducible first | exact HK.out | apply Kept.alloc | apply Kept.drewN | apply Kept.drew) | exact HK.out)⟩, ⟨by repeat (first | (with_reducible first | exact HB.out | apply below_alloc | apply pw_below_drewN | apply below_drew1) | exact HB.out)⟩⟩
          replace c84 := Bool.eq_false_iff.mpr c84
          subst c84
          have H1 : (pretty_spec.l0 kj80 l0 y357 (wrap64 (x5_7 + 1))) = some r := by rw [if_neg (show ¬ (false = true) by decide)] at H; exact H
          clear H
          have H := H1
          clear H1
          as_aux_lemma =>
           have H' := Aside0.mk H
           clear H
           go_wp2
           go_roundg kj80
           case measure => have := HK1.out; have := HJ7.out; have := HJ80.out; omega
           case rel => exact ⟨(y357), (wrap64 (x5_7 + 1)), (by first | rfl | (simp; done) | (simp [nil_ne_, nil_eq_]; done) | (simp [*]; done)), H', ⟨by have := HK1.out; have := HJ7.out; have := HJ80.out; omega⟩, ⟨by (with_reducible repeat (first | apply Kd.R_alloc | apply Kd.R_drewN | apply Kd.R_drew)); exact HO_1.out⟩, ⟨by repeat (first | (with_reducible first | exact HK.out | apply Kept.alloc | apply Kept.drewN | apply Kept.drew) | exact HK.out)⟩, ⟨by repeat (first | (with_reducible first | exact HB.out | apply below_alloc | apply pw_below_drewN | apply below_drew1) | exact HB.out)⟩⟩
        rw [if_neg c68] at H
        exact absurd H (by simp)
       rw [if_neg c67] at H
       exact absurd H (by simp)
      rw [if_neg c66] at H
      exact absurd H (by simp)
    rw [if_neg c7] at H
    exact absurd H (by simp)
   rw [if_neg c6] at H
   have c6b0 : decide (x5_1 < (l0.length : Int)) = false := decide_eq_false c6
   clear c6
   as_aux_lemma =>
    obtain rfl := Option.some.inj H
    go_wp2
    go_ret
    exact ⟨_, by first | rfl | (simp [errX_none, errX_some] <;> rfl) | (simp [*, errX_none, errX_some] <;> rfl), by (with_reducible repeat (first | apply Kd.R_alloc | apply Kd.R_drewN | apply Kd.R_drew)); exact HO_1.out, by repeat (first | (with_reducible first | exact HB.out | apply below_alloc | apply pw_below_drewN | apply below_drew1) | exact HB.out), by repeat (first | (with_reducible first | exact HK.out | apply Kept.alloc | apply Kept.drewN | apply Kept.drew) | exact HK.out)⟩
 rw [if_neg c3] at H
 exact absurd H (by simp)
end Go.Proofs.Ytnmbpleneddkhaa.PFnPrSpecPlain