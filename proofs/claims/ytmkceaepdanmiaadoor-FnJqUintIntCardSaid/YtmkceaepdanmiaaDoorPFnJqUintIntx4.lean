-- Written by a program of this session (wip/prx) out of the print of the loaded functions.
import Derived.Test.YtmkceaepdanmiaaDoorPFnJqUintIntx0
namespace Go.Proofs.YtmkceaepdanmiaaDoor.PFnJqUintInt
open Go.RowKit Go.Proofs.YtmkceaepdanmiaaDoorW.PrintWords Go.Proofs.YtmkceaepdanmiaaDoorW.PrintLast Go.Proofs.YtmkceaepdanmiaaDoorW.PrintMore
attribute [local go_sem] max2_int min2_int max_two min_two max_three min_three max_four min_four   -- for this text's walks alone
set_option linter.unusedVariables false
set_option linter.unusedSimpArgs false

/-! ### jsonparser_parseInt: function 11 -/
mutual
def jsonparser_parseInt.j0 : Nat → List Int → Int → Int → Bool → Int → Option (Int × Bool × Bool)
  | 0, _, _, _, _, _ => none
  | k + 1, x0, x2, x5, x6, x7 => if x7 = x5 then (some (0, false, false)) else (if (wrap64 (x5 - x7)) < 19 then (jsonparser_parseInt.l0 k x0 x2 x5 x6 x7) else (if x6 = true then (if 1 ≤ (x0.length : Int) then (jsonparser_parseInt.j2 k (x0.drop 1) x6) else (none)) else (jsonparser_parseInt.j2 k x0 x6)))
def jsonparser_parseInt.l0 : Nat → List Int → Int → Int → Bool → Int → Option (Int × Bool × Bool)
  | 0, _, _, _, _, _ => none
  | k + 1, x0, x2, x5, x6, x7 => if x7 < x5 then (if 0 ≤ x7 then (if x7 < (x0.length : Int) then (if (((rd x0 x7) - 48) % 256) > 9 then (some (0, false, false)) else (jsonparser_parseInt.l0 k x0 (wrap64 ((wrap64 (10 * x2)) + (((rd x0 x7) - 48) % 256))) x5 x6 (wrap64 (x7 + 1)))) else (none)) else (none)) else (if x6 = true then (some (wrap64 (-x2), true, false)) else (some (x2, true, false)))
def jsonparser_parseInt.j2 : Nat → List Int → Bool → Option (Int × Bool × Bool)
  | 0, _, _ => none
  | k + 1, x0, x6 => jsonparser_parseInt.l1 k x6 0 x0 (x0.length : Int) 0
def jsonparser_parseInt.l1 : Nat → Bool → Int → List Int → Int → Int → Option (Int × Bool × Bool)
  | 0, _, _, _, _, _ => none
  | k + 1, x6, x9, x52, x53, x54 => if x54 < x53 then (if 0 ≤ x54 then (if x54 < (x52.length : Int) then (if (rd x52 x54) < 48 then (jsonparser_parseInt.j4 k x6 x9 (rd x52 x54) x52 x53 x54 true) else (jsonparser_parseInt.j4 k x6 x9 (rd x52 x54) x52 x53 x54 (decide ((rd x52 x54) > 57)))) else (none)) else (none)) else (if x9 > 9223372036854775807 then (if x6 = true then (jsonparser_parseInt.j5 k (x9 == 9223372036854775808)) else (jsonparser_parseInt.j5 k false)) else (if x6 = true then (some (wrap64 (-(wrap64 (x9))), true, false)) else (some (wrap64 (x9), true, false))))
def jsonparser_parseInt.j4 : Nat → Bool → Int → Int → List Int → Int → Int → Bool → Option (Int × Bool × Bool)
  | 0, _, _, _, _, _, _, _ => none
  | k + 1, x6, x9, x11, x52, x53, x54, x63 => if x63 = true then (some (0, false, false)) else (if x9 > 1844674407370955161 then (some (0, false, true)) else (if (IntKind.u64.wrap ((IntKind.u64.wrap (x9 * 10)) + ((x11 - 48) % 256))) < (IntKind.u64.wrap (x9 * 10)) then (some (0, false, true)) else (jsonparser_parseInt.l1 k x6 (IntKind.u64.wrap ((IntKind.u64.wrap (x9 * 10)) + ((x11 - 48) % 256))) x52 x53 (wrap64 (x54 + 1)))))
def jsonparser_parseInt.j5 : Nat → Bool → Option (Int × Bool × Bool)
  | 0, _ => none
  | k + 1, x84 => if x84 = true then (some ((-9223372036854775808), true, false)) else (some (0, false, true))
end
def jsonparser_parseInt.f (k : Nat) (l0 : List Int) : Option (Int × Bool × Bool) := if (l0.length : Int) = 0 then (some (0, false, false)) else (if 0 < (l0.length : Int) then (if (rd l0 0) = 45 then (jsonparser_parseInt.j0 k l0 0 (l0.length : Int) true 1) else (jsonparser_parseInt.j0 k l0 0 (l0.length : Int) false 0)) else (none))
theorem jsonparser_parseInt.mono_l : ∀ k, (∀ y0 y1 y2 y3 y4, LeO (jsonparser_parseInt.j0 k y0 y1 y2 y3 y4) (jsonparser_parseInt.j0 (k + 1) y0 y1 y2 y3 y4)) ∧ (∀ y0 y1 y2 y3 y4, LeO (jsonparser_parseInt.l0 k y0 y1 y2 y3 y4) (jsonparser_parseInt.l0 (k + 1) y0 y1 y2 y3 y4)) ∧ (∀ y0 y1, LeO (jsonparser_parseInt.j2 k y0 y1) (jsonparser_parseInt.j2 (k + 1) y0 y1)) ∧ (∀ y0 y1 y2 y3 y4, LeO (jsonparser_parseInt.l1 k y0 y1 y2 y3 y4) (jsonparser_parseInt.l1 (k + 1) y0 y1 y2 y3 y4)) ∧ (∀ y0 y1 y2 y3 y4 y5 y6, LeO (jsonparser_parseInt.j4 k y0 y1 y2 y3 y4 y5 y6) (jsonparser_parseInt.j4 (k + 1) y0 y1 y2 y3 y4 y5 y6)) ∧ (∀ y0, LeO (jsonparser_parseInt.j5 k y0) (jsonparser_parseInt.j5 (k + 1) y0))
  | 0 => ⟨fun _ _ _ _ _ r h => by simp [jsonparser_parseInt.j0] at h, fun _ _ _ _ _ r h => by simp [jsonparser_parseInt.l0] at h, fun _ _ r h => by simp [jsonparser_parseInt.j2] at h, fun _ _ _ _ _ r h => by simp [jsonparser_parseInt.l1] at h, fun _ _ _ _ _ _ _ r h => by simp [jsonparser_parseInt.j4] at h, fun _ r h => by simp [jsonparser_parseInt.j5] at h⟩
  | k + 1 => by
    obtain ⟨ih0, ih1, ih2, ih3, ih4, ih5⟩ := jsonparser_parseInt.mono_l k
    refine ⟨?_, ?_, ?_, ?_, ?_, ?_⟩
    · intro y0 y1 y2 y3 y4
      unfold jsonparser_parseInt.j0
      repeat' first
      | (with_reducible exact ih0 _ _ _ _ _)
      | (with_reducible exact ih1 _ _ _ _ _)
      | (with_reducible exact ih2 _ _)
      | (with_reducible exact ih3 _ _ _ _ _)
      | (with_reducible exact ih4 _ _ _ _ _ _ _)
      | (with_reducible exact ih5 _)
      | (with_reducible exact LeO.refl _)
      | (with_reducible exact LeO.none _)
      | (with_reducible refine LeO.ite ?_ ?_)
      | (with_reducible refine LeO.bind ?_ (fun _ => ?_))
      | exact ih0 _ _ _ _ _
      | exact ih1 _ _ _ _ _
      | exact ih2 _ _
      | exact ih3 _ _ _ _ _
      | exact ih4 _ _ _ _ _ _ _
      | exact ih5 _
      | exact LeO.none _
      | refine LeO.ite ?_ ?_
      | refine LeO.bind ?_ (fun _ => ?_)
    · intro y0 y1 y2 y3 y4
      unfold jsonparser_parseInt.l0
      repeat' first
      | (with_reducible exact ih0 _ _ _ _ _)
      | (with_reducible exact ih1 _ _ _ _ _)
      | (with_reducible exact ih2 _ _)
      | (with_reducible exact ih3 _ _ _ _ _)
      | (with_reducible exact ih4 _ _ _ _ _ _ _)
      | (with_reducible exact ih5 _)
      | (with_reducible exact LeO.refl _)
      | (with_reducible exact LeO.none _)
      | (with_reducible refine LeO.ite ?_ ?_)
      | (with_reducible refine LeO.bind ?_ (fun _ => ?_))
      | exact ih0 _ _ _ _ _
      | exact ih1 _ _ _ _ _
      | exact ih2 _ _
      | exact ih3 _ _ _ _ _
      | exact ih4 _ _ _ _ _ _ _
      | exact ih5 _
      | exact LeO.none _
      | refine LeO.ite ?_ ?_
      | refine LeO.bind ?_ (fun _ => ?_)
    · intro y0 y1
      unfold jsonparser_parseInt.j2
      repeat' first
      | (with_reducible exact ih0 _ _ _ _ _)
      | (with_reducible exact ih1 _ _ _ _ _)
      | (with_reducible exact ih2 _ _)
      | (with_reducible exact ih3 _ _ _ _ _)
      | (with_reducible exact ih4 _ _ _ _ _ _ _)
      | (with_reducible exact ih5 _)
      | (with_reducible exact LeO.refl _)
      | (with_reducible exact LeO.none _)
      | (with_reducible refine LeO.ite ?_ ?_)
      | (with_reducible refine LeO.bind ?_ (fun _ => ?_))
      | exact ih0 _ _ _ _ _
      | exact ih1 _ _ _ _ _
      | exact ih2 _ _
      | exact ih3 _ _ _ _ _
      | exact ih4 _ _ _ _ _ _ _
      | exact ih5 _
      | exact LeO.none _
      | refine LeO.ite ?_ ?_
      | refine LeO.bind ?_ (fun _ => ?_)
    · intro y0 y1 y2 y3 y4
      unfold jsonparser_parseInt.l1
      repeat' first
      | (with_reducible exact ih0 _ _ _ _ _)
      | (with_reducible exact ih1 _ _ _ _ _)
      | (with_reducible exact ih2 _ _)
      | (with_reducible exact ih3 _ _ _ _ _)
      | (with_reducible exact ih4 _ _ _ _ _ _ _)
      | (with_reducible exact ih5 _)
      | (with_reducible exact LeO.refl _)
      | (with_reducible exact LeO.none _)
      | (with_reducible refine LeO.ite ?_ ?_)
      | (with_reducible refine LeO.bind ?_ (fun _ => ?_))
      | exact ih0 _ _ _ _ _
      | exact ih1 _ _ _ _ _
      | exact ih2 _ _
      | exact ih3 _ _ _ _ _
      | exact ih4 _ _ _ _ _ _ _
      | exact ih5 _
      | exact LeO.none _
      | refine LeO.ite ?_ ?_
      | refine LeO.bind ?_ (fun _ => ?_)
    · intro y0 y1 y2 y3 y4 y5 y6
      unfold jsonparser_parseInt.j4
      repeat' first
      | (with_reducible exact ih0 _ _ _ _ _)
      | (with_reducible exact ih1 _ _ _ _ _)
      | (with_reducible exact ih2 _ _)
      | (with_reducible exact ih3 _ _ _ _ _)
      | (with_reducible exact ih4 _ _ _ _ _ _ _)
      | (with_reducible exact ih5 _)
      | (with_reducible exact LeO.refl _)
      | (with_reducible exact LeO.none _)
      | (with_reducible refine LeO.ite ?_ ?_)
      | (with_reducible refine LeO.bind ?_ (fun _ => ?_))
      | exact ih0 _ _ _ _ _
      | exact ih1 _ _ _ _ _
      | exact ih2 _ _
      | exact ih3 _ _ _ _ _
      | exact ih4 _ _ _ _ _ _ _
      | exact ih5 _
      | exact LeO.none _
      | refine LeO.ite ?_ ?_
      | refine LeO.bind ?_ (fun _ => ?_)
    · intro y0
      unfold jsonparser_parseInt.j5
      repeat' first
      | (with_reducible exact ih0 _ _ _ _ _)
      | (with_reducible exact ih1 _ _ _ _ _)
      | (with_reducible exact ih2 _ _)
      | (with_reducible exact ih3 _ _ _ _ _)
      | (with_reducible exact ih4 _ _ _ _ _ _ _)
      | (with_reducible exact ih5 _)
      | (with_reducible exact LeO.refl _)
      | (with_reducible exact LeO.none _)
      | (with_reducible refine LeO.ite ?_ ?_)
      | (with_reducible refine LeO.bind ?_ (fun _ => ?_))
      | exact ih0 _ _ _ _ _
      | exact ih1 _ _ _ _ _
      | exact ih2 _ _
      | exact ih3 _ _ _ _ _
      | exact ih4 _ _ _ _ _ _ _
      | exact ih5 _
      | exact LeO.none _
      | refine LeO.ite ?_ ?_
      | refine LeO.bind ?_ (fun _ => ?_)
theorem jsonparser_parseInt.mono : ∀ a0 k, LeO (jsonparser_parseInt.f k a0) (jsonparser_parseInt.f (k + 1) a0) := by
  intro a0 k
  obtain ⟨ih0, ih1, ih2, ih3, ih4, ih5⟩ := jsonparser_parseInt.mono_l k
  unfold jsonparser_parseInt.f
  repeat' first
      | (with_reducible exact ih0 _ _ _ _ _)
      | (with_reducible exact ih1 _ _ _ _ _)
      | (with_reducible exact ih2 _ _)
      | (with_reducible exact ih3 _ _ _ _ _)
      | (with_reducible exact ih4 _ _ _ _ _ _ _)
      | (with_reducible exact ih5 _)
      | (with_reducible exact LeO.refl _)
      | (with_reducible exact LeO.none _)
      | (with_reducible refine LeO.ite ?_ ?_)
      | (with_reducible refine LeO.bind ?_ (fun _ => ?_))
      | exact ih0 _ _ _ _ _
      | exact ih1 _ _ _ _ _
      | exact ih2 _ _
      | exact ih3 _ _ _ _ _
      | exact ih4 _ _ _ _ _ _ _
      | exact ih5 _
      | exact LeO.none _
      | refine LeO.ite ?_ ?_
      | refine LeO.bind ?_ (fun _ => ?_)
set_option maxHeartbeats 8000000 in
set_option maxRecDepth 100000 in
theorem jsonparser_parseInt.calls (k : Nat) (P0_ : Nat → Prop) (A0 : Option Addr) (c0 : Nat) (l0 : List Int) (r1 : Int) (r2 : Bool) (r3 : Bool) (w : World) (hs0 : Kd.V (Kd.int .u8) 5 w w.heap.size (fun k_ => P0_ k_) (.slice A0 l0.length c0) l0) (h : jsonparser_parseInt.f k l0 = some (r1, r2, r3)) :
    Calls Tryd.prog 11 #[.slice A0 l0.length c0] w fun e w' => e = .returned (.tuple #[.int .i64 r1, .bool r2, .bool r3]) ∧ Below w.heap.size w w' := by
 have HO0 := Aside0.mk (show Kd.V (Kd.int .u8) 5 w w.heap.size (fun k_ => (P0_ k_ ∨ w.heap.size ≤ k_)) (.slice A0 l0.length c0) l0 from Kd.V_mono hs0 (fun k_ hk => .inl hk))
 have HB := Aside0.mk (Below.refl w.heap.size w)
 have H : (if (l0.length : Int) = 0 then (some (0, false, false)) else (if 0 < (l0.length : Int) then (if (rd l0 0) = 45 then (jsonparser_parseInt.j0 k l0 0 (l0.length : Int) true 1) else (jsonparser_parseInt.j0 k l0 0 (l0.length : Int) false 0)) else (none))) = some (r1, r2, r3) := h
 clear h
 by_cases c2 : (l0.length : Int) = 0
 ·
  rw [if_pos c2] at H
  have c2b0 : ((l0.length : Int) == 0) = true := beq_iff_eq.mpr c2
  have c2b1 : ((l0.length : Int) != 0) = false := bne_eq_false_iff_eq.mpr c2
  clear c2
  simp only [Option.some.injEq, Prod.mk.injEq] at H
  obtain ⟨rfl, rfl, rfl⟩ := H
  go_enter Tryd.func11, Tryd.ntmps11
  go_wp2
  go_ret3
  exact ⟨by first | rfl | (simp [errX_none, errX_some] <;> rfl) | (simp [*, errX_none, errX_some] <;> rfl), by repeat (first | (with_reducible first | exact HB.out | apply below_alloc | apply pw_below_drewN | apply below_drew1) | exact HB.out)⟩
 ·
  rw [if_neg c2] at H
  have c2b0 : ((l0.length : Int) == 0) = false := beq_eq_false_iff_ne.mpr c2
  have c2b1 : ((l0.length : Int) != 0) = true := bne_iff_ne.mpr c2
  have c2b2 : ¬ (l0 = []) := fun h_ => c2 (by rw [h_]; rfl)
  by_cases c3 : 0 < (l0.length : Int)
  ·
   rw [if_pos c3] at H
   have c3b0 : decide (0 < (l0.length : Int)) = true := decide_eq_true c3
   have c3b1 : decide (0 < l0.length) = true := decide_eq_true (by omega)
   clear c3
   have HC4 := Aside0.mk H
   clear H
   have p127 : 0 ≤ (0 : Int) := (by omega)
   have q127 : 0 < (l0.length : Int) := of_decide_eq_true (by first | (with_reducible assumption) | assumption)
   obtain ⟨ad127, e127, hx127_0⟩ := Kd.at_int (Kd.V_reads' HO0.out).2.2 0 p127 q127
   cases e127
   have qi127 : (0 < l0.length) = True := eq_true (by omega)
   (try rw [show ((0 : Int)).toNat = 0 from rfl] at hx127_0)
   (try rw [Addr.add_zero'] at hx127_0)
   replace p127 := eq_true p127
   replace q127 := eq_true q127
   go_enter Tryd.func11, Tryd.ntmps11
   go_upto_if 20 with (fail)
   go_cut [6, 7] (fun v6 v7 wc => ∃ (kq : Nat) (x6_3 : Bool) (x7_3 : Int), v6 = .bool x6_3 ∧ v7 = .int .i64 x7_3 ∧ Aside0 (jsonparser_parseInt.j0 kq l0 0 (l0.length : Int) x6_3 x7_3 = some (r1, r2, r3)) ∧ Aside0 (kq ≤ k) ∧ Aside0 (Kd.V (Kd.int .u8) 5 wc w.heap.size (fun k_ => (P0_ k_ ∨ w.heap.size ≤ k_)) (.slice (some ad127) l0.length c0) l0) ∧ Aside0 (Below w.heap.size w wc))
   case first =>
    have H := HC4.out
    clear HC4
    by_cases c5 : (rd l0 0) = 45
    ·
     rw [if_pos c5] at H
     have c5b0 : ((rd l0 0) == 45) = true := beq_iff_eq.mpr c5
     have c5b1 : ((rd l0 0) != 45) = false := bne_eq_false_iff_eq.mpr c5
     clear c5
     (first | rw [c5b0] | (simp only [i64_w, i32_w]; rw [c5b0]) | rw [c5b1] | skip)
     have H' := Aside0.mk H
     clear H
     go_wp2
     go_meet
     case rel => exact ⟨_, (true), (1), (by first | rfl | (simp; done) | (simp [nil_ne_, nil_eq_]; done) | (simp [*]; done)), (by first | rfl | (simp; done) | (simp [nil_ne_, nil_eq_]; done) | (simp [*]; done)), H', ⟨by first | omega | exact Nat.le_refl _⟩, ⟨by (with_reducible repeat (first | apply Kd.V_alloc | apply Kd.V_drewN | apply Kd.V_drew)); exact HO0.out⟩, ⟨by repeat (first | (with_reducible first | exact HB.out | apply below_alloc | apply pw_below_drewN | apply below_drew1) | exact HB.out)⟩⟩
    ·
     rw [if_neg c5] at H
     have c5b0 : ((rd l0 0) == 45) = false := beq_eq_false_iff_ne.mpr c5
     have c5b1 : ((rd l0 0) != 45) = true := bne_iff_ne.mpr c5
     (first | rw [c5b0] | (simp only [i64_w, i32_w]; rw [c5b0]) | rw [c5b1] | skip)
     have H' := Aside0.mk H
     clear H
     go_wp2
     go_meet
     case rel => exact ⟨_, (false), (0), (by first | rfl | (simp; done) | (simp [nil_ne_, nil_eq_]; done) | (simp [*]; done)), (by first | rfl | (simp; done) | (simp [nil_ne_, nil_eq_]; done) | (simp [*]; done)), H', ⟨by first | omega | exact Nat.le_refl _⟩, ⟨by (with_reducible repeat (first | apply Kd.V_alloc | apply Kd.V_drewN | apply Kd.V_drew)); exact HO0.out⟩, ⟨by repeat (first | (with_reducible first | exact HB.out | apply below_alloc | apply pw_below_drewN | apply below_drew1) | exact HB.out)⟩⟩
   case rest =>
    clear HC4
    try clear c1
    try clear p1
    try clear q1
    try clear hx1
    try clear qi1
    try clear c2
    try clear c2b0
    try clear c2b1
    try clear c2b2
    try clear p2
    try clear c3
    try clear c3b0
    try clear c3b1
    try clear c5
    try clear c5b0
    try clear c5b1
    try clear hx127_0
    try clear p127
    try clear q127
    obtain ⟨kq, x6_3, x7_3, rfl, rfl, HA, HJ3, HO_0, HB⟩ := hcut
    cases kq with
    | zero => exact absurd HA.out (by simp [jsonparser_parseInt.j0])
    | succ kj3 =>
     have H := HA.out
     clear HA
     simp only [jsonparser_parseInt.j0] at H
     by_cases c6 : x7_3 = (l0.length : Int)
     ·
      rw [if_pos c6] at H
      have c6b0 : (x7_3 == (l0.length : Int)) = true := beq_iff_eq.mpr c6
      have c6b1 : (x7_3 != (l0.length : Int)) = false := bne_eq_false_iff_eq.mpr c6
      clear c6
      simp only [Option.some.injEq, Prod.mk.injEq] at H
      obtain ⟨rfl, rfl, rfl⟩ := H
      go_wp2
      go_ret3
      exact ⟨by first | rfl | (simp [errX_none, errX_some] <;> rfl) | (simp [*, errX_none, errX_some] <;> rfl), by repeat (first | (with_reducible first | exact HB.out | apply below_alloc | apply pw_below_drewN | apply below_drew1) | exact HB.out)⟩
     ·
      rw [if_neg c6] at H
      have c6b0 : (x7_3 == (l0.length : Int)) = false := beq_eq_false_iff_ne.mpr c6
      have c6b1 : (x7_3 != (l0.length : Int)) = true := bne_iff_ne.mpr c6
      by_cases c7 : (wrap64 ((l0.length : Int) - x7_3)) < 19
      ·
       rw [if_pos c7] at H
       have c7b0 : decide ((wrap64 ((l0.length : Int) - x7_3)) < 19) = true := decide_eq_true c7
       clear c7
       have H' := Aside0.mk H
       clear H
       go_wp2
       try simp only [Act.put, List.setIfInBounds_toArray, List.set_cons_succ, List.set_cons_zero]
       go_loopg [2, 7] kj3 (fun kq v2 v7 w' => ∃ (x2_2 : Int) (x7_2 : Int), v2 = .int .i64 x2_2 ∧ v7 = .int .i64 x7_2 ∧ Aside0 (jsonparser_parseInt.l0 kq l0 x2_2 (l0.length : Int) x6_3 x7_2 = some (r1, r2, r3)) ∧ Aside0 (kq ≤ kj3) ∧ Aside0 (Kd.V (Kd.int .u8) 5 w' w.heap.size (fun k_ => (P0_ k_ ∨ w.heap.size ≤ k_)) (.slice (some ad127) l0.length c0) l0) ∧ Aside0 (Below w.heap.size w w'))
       case atStart => exact ⟨(0), (x7_3), (by first | rfl | (simp; done) | (simp [nil_ne_, nil_eq_]; done) | (simp [*]; done)), (by first | rfl | (simp; done) | (simp [nil_ne_, nil_eq_]; done) | (simp [*]; done)), H', ⟨Nat.le_refl _⟩, ⟨by (with_reducible repeat (first | apply Kd.V_alloc | apply Kd.V_drewN | apply Kd.V_drew)); exact HO_0.out⟩, ⟨by repeat (first | (with_reducible first | exact HB.out | apply below_alloc | apply pw_below_drewN | apply below_drew1) | exact HB.out)⟩⟩
       case round =>
        clear H'
        try clear c1
        try clear p1
        try clear q1
        try clear hx1
        try clear qi1
        try clear c2
        try clear c2b0
        try clear c2b1
        try clear c2b2
        try clear p2
        try clear c3
        try clear c3b0
        try clear c3b1
        try clear c5
        try clear c5b0
        try clear c5b1
        try clear c6
        try clear c6b0
        try clear c6b1
        try clear p6
        try clear c7
        try clear c7b0
        try clear hx127_0
        try clear p1
        try clear p127
        try clear p2
        try clear q1
        try clear q127
        obtain ⟨x2_2, x7_2, rfl, rfl, HA, HK2, HO_0, HB⟩ := hrel
        cases gk with
        | zero => exact absurd HA.out (by simp [jsonparser_parseInt.l0])
        | succ k2 =>
         have H := HA.out
         clear HA
         simp only [jsonparser_parseInt.l0] at H
         by_cases c8 : x7_2 < (l0.length : Int)
         ·
          rw [if_pos c8] at H
          have c8b0 : decide (x7_2 < (l0.length : Int)) = true := decide_eq_true c8
          clear c8
          by_cases c9 : 0 ≤ x7_2
          ·
           rw [if_pos c9] at H
           have c9b0 : decide (0 ≤ x7_2) = true := decide_eq_true c9
           clear c9
           by_cases c10 : x7_2 < (l0.length : Int)
           ·
            rw [if_pos c10] at H
            have c10b0 : decide (x7_2 < (l0.length : Int)) = true := decide_eq_true c10
            clear c10
            by_cases c11 : (((rd l0 x7_2) - 48) % 256) > 9
            ·
             rw [if_pos c11] at H
             have c11b0 : decide (9 < (((rd l0 x7_2) - 48) % 256)) = true := decide_eq_true c11
             clear c11
             simp only [Option.some.injEq, Prod.mk.injEq] at H
             obtain ⟨rfl, rfl, rfl⟩ := H
             have p128 : 0 ≤ (x7_2 : Int) := of_decide_eq_true (by first | (with_reducible assumption) | assumption)
             have q128 : x7_2 < (l0.length : Int) := of_decide_eq_true (by first | (with_reducible assumption) | assumption)
             obtain ⟨ad128, e128, hx128_0⟩ := Kd.at_int (Kd.V_reads' HO_0.out).2.2 x7_2 p128 q128
             obtain rfl : ad127 = ad128 := (by injection e128)
             replace p128 := eq_true p128
             replace q128 := eq_true q128
             go_wp2
             go_ret3
             exact ⟨by first | rfl | (simp [errX_none, errX_some] <;> rfl) | (simp [*, errX_none, errX_some] <;> rfl), by repeat (first | (with_reducible first | exact HB.out | apply below_alloc | apply pw_below_drewN | apply below_drew1) | exact HB.out)⟩
            ·
             rw [if_neg c11] at H
             have c11b0 : decide (9 < (((rd l0 x7_2) - 48) % 256)) = false := decide_eq_false c11
             clear c11
             have H' := Aside0.mk H
             clear H
             have p128 : 0 ≤ (x7_2 : Int) := of_decide_eq_true (by first | (with_reducible assumption) | assumption)
             have q128 : x7_2 < (l0.length : Int) := of_decide_eq_true (by first | (with_reducible assumption) | assumption)
             obtain ⟨ad128, e128, hx128_0⟩ := Kd.at_int (Kd.V_reads' HO_0.out).2.2 x7_2 p128 q128
             obtain rfl : ad127 = ad128 := (by injection e128)
             replace p128 := eq_true p128
             replace q128 := eq_true q128
             go_wp2
             go_roundg k2
             case measure => have := HJ3.out; have := HK2.out; omega
             case rel => exact ⟨(wrap64 ((wrap64 (10 * x2_2)) + (((rd l0 x7_2) - 48) % 256))), (wrap64 (x7_2 + 1)), (by first | rfl | (simp; done) | (simp [nil_ne_, nil_eq_]; done) | (simp [*]; done)), (by first | rfl | (simp; done) | (simp [nil_ne_, nil_eq_]; done) | (simp [*]; done)), H', ⟨by have := HJ3.out; have := HK2.out; omega⟩, ⟨by (with_reducible repeat (first | apply Kd.V_alloc | apply Kd.V_drewN | apply Kd.V_drew)); exact HO_0.out⟩, ⟨by repeat (first | (with_reducible first | exact HB.out | apply below_alloc | apply pw_below_drewN | apply below_drew1) | exact HB.out)⟩⟩
           ·
            rw [if_neg c10] at H
            exact absurd H (by simp)
          ·
           rw [if_neg c9] at H
           exact absurd H (by simp)
         ·
          rw [if_neg c8] at H
          have c8b0 : decide (x7_2 < (l0.length : Int)) = false := decide_eq_false c8
          clear c8
          by_cases c12 : x6_3 = true
          ·
           subst c12
           have H1 : (some (wrap64 (-x2_2), true, false)) = some (r1, r2, r3) := by rw [if_pos rfl] at H; exact H
           clear H
           have H := H1
           clear H1
           simp only [Option.some.injEq, Prod.mk.injEq] at H
           obtain ⟨rfl, rfl, rfl⟩ := H
           go_wp2
           go_ret3
           exact ⟨by first | rfl | (simp [errX_none, errX_some] <;> rfl) | (simp [*, errX_none, errX_some] <;> rfl), by repeat (first | (with_reducible first | exact HB.out | apply below_alloc | apply pw_below_drewN | apply below_drew1) | exact HB.out)⟩
          ·
           replace c12 := Bool.eq_false_iff.mpr c12
           subst c12
           have H1 : (some (x2_2, true, false)) = some (r1, r2, r3) := by rw [if_neg (show ¬ (false = true) by decide)] at H; exact H
           clear H
           have H := H1
           clear H1
           simp only [Option.some.injEq, Prod.mk.injEq] at H
           obtain ⟨rfl, rfl, rfl⟩ := H
           go_wp2
           go_ret3
           exact ⟨by first | rfl | (simp [errX_none, errX_some] <;> rfl) | (simp [*, errX_none, errX_some] <;> rfl), by repeat (first | (with_reducible first | exact HB.out | apply below_alloc | apply pw_below_drewN | apply below_drew1) | exact HB.out)⟩
      ·
       rw [if_neg c7] at H
       have c7b0 : decide ((wrap64 ((l0.length : Int) - x7_3)) < 19) = false := decide_eq_false c7
       clear c7
       have HC13 := Aside0.mk H
       clear H
       go_upto_if 49 with (fail)
       go_cut [0] (fun v0 wc => ∃ (kq : Nat) (x0_12 : List Int), Aside0 (jsonparser_parseInt.j2 kq x0_12 x6_3 = some (r1, r2, r3)) ∧ Aside0 (kq ≤ kj3) ∧ Aside0 (Kd.V (Kd.int .u8) 5 wc w.heap.size (fun k_ => (P0_ k_ ∨ w.heap.size ≤ k_)) v0 x0_12) ∧ Aside0 (Below w.heap.size w wc))
       case first =>
        have H := HC13.out
        clear HC13
        by_cases c14 : x6_3 = true
        ·
         subst c14
         have H1 : (if 1 ≤ (l0.length : Int) then (jsonparser_parseInt.j2 kj3 (l0.drop 1) true) else (none)) = some (r1, r2, r3) := by rw [if_pos rfl] at H; exact H
         clear H
         have H := H1
         clear H1
         by_cases c15 : 1 ≤ (l0.length : Int)
         ·
          rw [if_pos c15] at H
          have c15b0 := eq_true c15
          have c15b1 : decide (1 ≤ (l0.length : Int)) = true := decide_eq_true c15
          clear c15
          obtain ⟨y129, hy129⟩ : ∃ y_ : List Int, y_ = (l0.drop 1) := ⟨_, rfl⟩
          replace H : (jsonparser_parseInt.j2 kj3 y129 true) = some (r1, r2, r3) := by first | (rw [hy129]; with_reducible exact H) | (have H2_ := (Option.bind_some _ _).symm.trans H; rw [hy129]; with_reducible exact H2_) | (have H2_ := (Option.bind_some _ _).symm.trans H; with_reducible exact H2_) | with_reducible exact H | (rw [hy129]; exact H) | exact H
          have Ny129 := Aside0.mk hy129
          clear hy129
          have H' := Aside0.mk H
          clear H
          have q16 : (1 : Int) ≤ ((l0.length : Int) : Int) := of_decide_eq_true (by first | (with_reducible assumption) | assumption)
          obtain ⟨i016, hi016, _, hsz16, _⟩ := info_parts info5
          have hroom16 : l0.length ≤ c0 := (Kd.V_reads' HO_0.out).2.1
          have hC16 : Kd.F (Kd.int .u8) _ _ (some ad127) l0.length l0 := (Kd.V_at (base := w.heap.size) HO_0.out).2.2
          have hcut16 := cut_from (P := Tryd.prog) 30 5 .i64 Tryd.underlying30 hi016 1 hsz16 (some ad127) l0.length c0 1 (by omega) q16
          have hr16 := Kd.F_cut (m := (1 : Int).toNat) (c := c0) hC16 (by omega) hroom16
          obtain ⟨A16, hA16⟩ : ∃ A1, A1 = (if c0 = (1 : Int).toNat then (some ad127) else ((some ad127) : Option Addr).map (·.add ((1 : Int).toNat * 1))) := ⟨_, rfl⟩
          obtain ⟨c16, hc16⟩ : ∃ c1, c1 = c0 - (1 : Int).toNat := ⟨_, rfl⟩
          have hy16 : y129.length = l0.length - (1 : Int).toNat := (by rw [Ny129.out, List.length_drop] <;> omega)
          rw [show (l0).drop (1 : Int).toNat = y129 from Ny129.out.symm] at hr16
          replace hr16 : Kd.F (Kd.int .u8) _ _ A16 y129.length y129 := (by rw [hA16]; exact hr16)
          rw [← hy16, ← hA16, ← hc16] at hcut16
          have HO133 := Aside0.mk (show Kd.V (Kd.int .u8) 5 _ w.heap.size _ (.slice A16 y129.length c16) y129 from Kd.V_mk (by rw [hy16, hc16]; exact Nat.sub_le_sub_right hroom16 _) hr16)
          have HC133 := Aside0.mk (show y129.length ≤ c16 from by rw [hy16, hc16]; exact Nat.sub_le_sub_right hroom16 _)
          clear hr16 hC16 hroom16 hi016 hsz16 hc16
          have KY16 := Aside0.mk hy16
          have KA16 := Aside0.mk hA16
          clear hy16 hA16
          replace q16 := eq_true q16
          go_wp2
          go_meet
          case rel => exact ⟨_, (y129), H', ⟨by have := HJ3.out; first | omega | exact Nat.le_refl _⟩, ⟨by (with_reducible repeat (first | apply Kd.V_alloc | apply Kd.V_drewN | apply Kd.V_drew)); exact HO133.out⟩, ⟨by repeat (first | (with_reducible first | exact HB.out | apply below_alloc | apply pw_below_drewN | apply below_drew1) | exact HB.out)⟩⟩
         ·
          rw [if_neg c15] at H
          exact absurd H (by simp)
        ·
         replace c14 := Bool.eq_false_iff.mpr c14
         subst c14
         have H1 : (jsonparser_parseInt.j2 kj3 l0 false) = some (r1, r2, r3) := by rw [if_neg (show ¬ (false = true) by decide)] at H; exact H
         clear H
         have H := H1
         clear H1
         have H' := Aside0.mk H
         clear H
         go_wp2
         go_meet
         case rel => exact ⟨_, (l0), H', ⟨by have := HJ3.out; first | omega | exact Nat.le_refl _⟩, ⟨by (with_reducible repeat (first | apply Kd.V_alloc | apply Kd.V_drewN | apply Kd.V_drew)); exact HO_0.out⟩, ⟨by repeat (first | (with_reducible first | exact HB.out | apply below_alloc | apply pw_below_drewN | apply below_drew1) | exact HB.out)⟩⟩
       case rest =>
        clear HC13
        try clear c1
        try clear p1
        try clear q1
        try clear hx1
        try clear qi1
        try clear c2
        try clear c2b0
        try clear c2b1
        try clear c2b2
        try clear p2
        try clear c3
        try clear c3b0
        try clear c3b1
        try clear c5
        try clear c5b0
        try clear c5b1
        try clear c6
        try clear c6b0
        try clear c6b1
        try clear p6
        try clear c7
        try clear c7b0
        try clear c8
        try clear c8b0
        try clear c9
        try clear c9b0
        try clear c10
        try clear c10b0
        try clear c11
        try clear c11b0
        try clear c12
        try clear p12
        try clear q12
        try clear hx12
        try clear qi12
        try clear c14
        try clear c15
        try clear c15b0
        try clear c15b1
        try clear c16
        try clear q16
        try clear hx127_0
        try clear hx128_0
        try clear p1
        try clear p127
        try clear p128
        try clear p2
        try clear p6
        try clear q1
        try clear q127
        try clear q128
        try clear q16
        obtain ⟨kq, x0_12, HA, HJ12, HO_0, HB⟩ := hcut
        cases kq with
        | zero => exact absurd HA.out (by simp [jsonparser_parseInt.j2])
        | succ kj12 =>
         have H := HA.out
         clear HA
         simp only [jsonparser_parseInt.j2] at H
         have H' := Aside0.mk H
         clear H
         obtain ⟨Ao17, co17, eo17⟩ := Kd.V_slice HO_0.out
         subst eo17
         go_wp2
         try simp only [Act.put, List.setIfInBounds_toArray, List.set_cons_succ, List.set_cons_zero]
         go_loopg [9, 54] kj12 (fun kq v9 v54 w' => ∃ (x9_3 : Int) (x54_3 : Int), v9 = .int .u64 x9_3 ∧ v54 = .int .i64 x54_3 ∧ Aside0 (jsonparser_parseInt.l1 kq x6_3 x9_3 x0_12 (x0_12.length : Int) x54_3 = some (r1, r2, r3)) ∧ Aside0 (kq ≤ kj12) ∧ Aside0 (Kd.V (Kd.int .u8) 5 w' w.heap.size (fun k_ => (P0_ k_ ∨ w.heap.size ≤ k_)) (.slice Ao17 x0_12.length co17) x0_12) ∧ Aside0 (Below w.heap.size w w'))
         case atStart => exact ⟨(0), (0), (by first | rfl | (simp; done) | (simp [nil_ne_, nil_eq_]; done) | (simp [*]; done)), (by first | rfl | (simp; done) | (simp [nil_ne_, nil_eq_]; done) | (simp [*]; done)), H', ⟨Nat.le_refl _⟩, ⟨by (with_reducible repeat (first | apply Kd.V_alloc | apply Kd.V_drewN | apply Kd.V_drew)); exact HO_0.out⟩, ⟨by repeat (first | (with_reducible first | exact HB.out | apply below_alloc | apply pw_below_drewN | apply below_drew1) | exact HB.out)⟩⟩
         case round =>
          clear H'
          try clear c1
          try clear p1
          try clear q1
          try clear hx1
          try clear qi1
          try clear c2
          try clear c2b0
          try clear c2b1
          try clear c2b2
          try clear p2
          try clear c3
          try clear c3b0
          try clear c3b1
          try clear c5
          try clear c5b0
          try clear c5b1
          try clear c6
          try clear c6b0
          try clear c6b1
          try clear p6
          try clear c7
          try clear c7b0
          try clear c8
          try clear c8b0
          try clear c9
          try clear c9b0
          try clear c10
          try clear c10b0
          try clear c11
          try clear c11b0
          try clear c12
          try clear p12
          try clear q12
          try clear hx12
          try clear qi12
          try clear c14
          try clear c15
          try clear c15b0
          try clear c15b1
          try clear c16
          try clear q16
          try clear hx127_0
          try clear hx128_0
          try clear p1
          try clear p12
          try clear p127
          try clear p128
          try clear p2
          try clear p6
          try clear q1
          try clear q12
          try clear q127
          try clear q128
          try clear q16
          obtain ⟨x9_3, x54_3, rfl, rfl, HA, HK3, HO_52, HB⟩ := hrel
          cases gk with
          | zero => exact absurd HA.out (by simp [jsonparser_parseInt.l1])
          | succ k3 =>
           have H := HA.out
           clear HA
           simp only [jsonparser_parseInt.l1] at H
           by_cases c18 : x54_3 < (x0_12.length : Int)
           ·
            rw [if_pos c18] at H
            have c18b0 : decide (x54_3 < (x0_12.length : Int)) = true := decide_eq_true c18
            clear c18
            by_cases c19 : 0 ≤ x54_3
            ·
             rw [if_pos c19] at H
             have c19b0 : decide (0 ≤ x54_3) = true := decide_eq_true c19
             clear c19
             by_cases c20 : x54_3 < (x0_12.length : Int)
             ·
              rw [if_pos c20] at H
              have c20b0 : decide (x54_3 < (x0_12.length : Int)) = true := decide_eq_true c20
              clear c20
              have HC21 := Aside0.mk H
              clear H
              have p134 : 0 ≤ (x54_3 : Int) := of_decide_eq_true (by first | (with_reducible assumption) | assumption)
              have q134 : x54_3 < (x0_12.length : Int) := of_decide_eq_true (by first | (with_reducible assumption) | assumption)
              obtain ⟨ad134, e134, hx134_0⟩ := Kd.at_int (Kd.V_reads' HO_52.out).2.2 x54_3 p134 q134
              cases e134
              replace p134 := eq_true p134
              replace q134 := eq_true q134
              go_upto_region 27 with (fail)
              go_cut [63] (fun v63 wc => ∃ (kq : Nat) (x63_20 : Bool), v63 = .bool x63_20 ∧ Aside0 (jsonparser_parseInt.j4 kq x6_3 x9_3 (rd x0_12 x54_3) x0_12 (x0_12.length : Int) x54_3 x63_20 = some (r1, r2, r3)) ∧ Aside0 (kq ≤ k3) ∧ Aside0 (Kd.V (Kd.int .u8) 5 wc w.heap.size (fun k_ => (P0_ k_ ∨ w.heap.size ≤ k_)) (.slice (some ad134) x0_12.length co17) x0_12) ∧ Aside0 (Below w.heap.size w wc))
              case first =>
               have H := HC21.out
               clear HC21
               by_cases c22 : (rd x0_12 x54_3) < 48
               ·
                rw [if_pos c22] at H
                have c22b0 : decide ((rd x0_12 x54_3) < 48) = true := decide_eq_true c22
                clear c22
                (first | rw [c22b0] | (simp only [i64_w, i32_w]; rw [c22b0]) | rw [c22b1] | skip)
                have H' := Aside0.mk H
                clear H
                go_wp2
                go_meet
                case rel => exact ⟨_, (true), (by first | rfl | (simp; done) | (simp [nil_ne_, nil_eq_]; done) | (simp [*]; done)), H', ⟨by have := HJ3.out; have := HJ12.out; have := HK3.out; first | omega | exact Nat.le_refl _⟩, ⟨by (with_reducible repeat (first | apply Kd.V_alloc | apply Kd.V_drewN | apply Kd.V_drew)); exact HO_52.out⟩, ⟨by repeat (first | (with_reducible first | exact HB.out | apply below_alloc | apply pw_below_drewN | apply below_drew1) | exact HB.out)⟩⟩
               ·
                rw [if_neg c22] at H
                have c22b0 : decide ((rd x0_12 x54_3) < 48) = false := decide_eq_false c22
                clear c22
                (first | rw [c22b0] | (simp only [i64_w, i32_w]; rw [c22b0]) | rw [c22b1] | skip)
                have H' := Aside0.mk H
                clear H
                go_wp2
                go_meet
                case rel => exact ⟨_, (decide ((rd x0_12 x54_3) > 57)), (by first | rfl | (simp; done) | (simp [nil_ne_, nil_eq_]; done) | (simp [*]; done)), H', ⟨by have := HJ3.out; have := HJ12.out; have := HK3.out; first | omega | exact Nat.le_refl _⟩, ⟨by (with_reducible repeat (first | apply Kd.V_alloc | apply Kd.V_drewN | apply Kd.V_drew)); exact HO_52.out⟩, ⟨by repeat (first | (with_reducible first | exact HB.out | apply below_alloc | apply pw_below_drewN | apply below_drew1) | exact HB.out)⟩⟩
              case rest =>
               clear HC21
               try clear c1
               try clear p1
               try clear q1
               try clear hx1
               try clear qi1
               try clear c2
               try clear c2b0
               try clear c2b1
               try clear c2b2
               try clear p2
               try clear c3
               try clear c3b0
               try clear c3b1
               try clear c5
               try clear c5b0
               try clear c5b1
               try clear c6
               try clear c6b0
               try clear c6b1
               try clear p6
               try clear c7
               try clear c7b0
               try clear c8
               try clear c8b0
               try clear c9
               try clear c9b0
               try clear c10
               try clear c10b0
               try clear c11
               try clear c11b0
               try clear c12
               try clear p12
               try clear q12
               try clear hx12
               try clear qi12
               try clear p13
               try clear q13
               try clear hx13
               try clear c14
               try clear c15
               try clear c15b0
               try clear c15b1
               try clear c16
               try clear q16
               try clear c18
               try clear c18b0
               try clear c19
               try clear c19b0
               try clear c20
               try clear c20b0
               try clear c22
               try clear c22b0
               try clear c22b1
               try clear hx127_0
               try clear hx128_0
               try clear hx134_0
               try clear p1
               try clear p12
               try clear p127
               try clear p128
               try clear p134
               try clear p2
               try clear p6
               try clear q1
               try clear q12
               try clear q127
               try clear q128
               try clear q134
               try clear q16
               obtain ⟨kq, x63_20, rfl, HA, HJ20, HO_52, HB⟩ := hcut
               cases kq with
               | zero => exact absurd HA.out (by simp [jsonparser_parseInt.j4])
               | succ kj20 =>
                have H := HA.out
                clear HA
                simp only [jsonparser_parseInt.j4] at H
                by_cases c23 : x63_20 = true
                ·
                 subst c23
                 have H1 : (some (0, false, false)) = some (r1, r2, r3) := by rw [if_pos rfl] at H; exact H
                 clear H
                 have H := H1
                 clear H1
                 simp only [Option.some.injEq, Prod.mk.injEq] at H
                 obtain ⟨rfl, rfl, rfl⟩ := H
                 go_wp2
                 go_ret3
                 exact ⟨by first | rfl | (simp [errX_none, errX_some] <;> rfl) | (simp [*, errX_none, errX_some] <;> rfl), by repeat (first | (with_reducible first | exact HB.out | apply below_alloc | apply pw_below_drewN | apply below_drew1) | exact HB.out)⟩
                ·
                 replace c23 := Bool.eq_false_iff.mpr c23
                 subst c23
                 have H1 : (if x9_3 > 1844674407370955161 then (some (0, false, true)) else (if (IntKind.u64.wrap ((IntKind.u64.wrap (x9_3 * 10)) + (((rd x0_12 x54_3) - 48) % 256))) < (IntKind.u64.wrap (x9_3 * 10)) then (some (0, false, true)) else (jsonparser_parseInt.l1 kj20 x6_3 (IntKind.u64.wrap ((IntKind.u64.wrap (x9_3 * 10)) + (((rd x0_12 x54_3) - 48) % 256))) x0_12 (x0_12.length : Int) (wrap64 (x54_3 + 1))))) = some (r1, r2, r3) := by rw [if_neg (show ¬ (false = true) by decide)] at H; exact H
                 clear H
                 have H := H1
                 clear H1
                 by_cases c24 : x9_3 > 1844674407370955161
                 ·
                  rw [if_pos c24] at H
                  have c24b0 : decide (1844674407370955161 < x9_3) = true := decide_eq_true c24
                  clear c24
                  simp only [Option.some.injEq, Prod.mk.injEq] at H
                  obtain ⟨rfl, rfl, rfl⟩ := H
                  go_wp2
                  go_ret3
                  exact ⟨by first | rfl | (simp [errX_none, errX_some] <;> rfl) | (simp [*, errX_none, errX_some] <;> rfl), by repeat (first | (with_reducible first | exact HB.out | apply below_alloc | apply pw_below_drewN | apply below_drew1) | exact HB.out)⟩
                 ·
                  rw [if_neg c24] at H
                  have c24b0 : decide (1844674407370955161 < x9_3) = false := decide_eq_false c24
                  clear c24
                  by_cases c25 : (IntKind.u64.wrap ((IntKind.u64.wrap (x9_3 * 10)) + (((rd x0_12 x54_3) - 48) % 256))) < (IntKind.u64.wrap (x9_3 * 10))
                  ·
                   rw [if_pos c25] at H
                   have c25b0 : decide ((IntKind.u64.wrap ((IntKind.u64.wrap (x9_3 * 10)) + (((rd x0_12 x54_3) - 48) % 256))) < (IntKind.u64.wrap (x9_3 * 10))) = true := decide_eq_true c25
                   clear c25
                   simp only [Option.some.injEq, Prod.mk.injEq] at H
                   obtain ⟨rfl, rfl, rfl⟩ := H
                   go_wp2
                   go_ret3
                   exact ⟨by first | rfl | (simp [errX_none, errX_some] <;> rfl) | (simp [*, errX_none, errX_some] <;> rfl), by repeat (first | (with_reducible first | exact HB.out | apply below_alloc | apply pw_below_drewN | apply below_drew1) | exact HB.out)⟩
                  ·
                   rw [if_neg c25] at H
                   have c25b0 : decide ((IntKind.u64.wrap ((IntKind.u64.wrap (x9_3 * 10)) + (((rd x0_12 x54_3) - 48) % 256))) < (IntKind.u64.wrap (x9_3 * 10))) = false := decide_eq_false c25
                   clear c25
                   have H' := Aside0.mk H
                   clear H
                   go_wp2
                   go_roundg kj20
                   case measure => have := HJ3.out; have := HJ12.out; have := HK3.out; have := HJ20.out; omega
                   case rel => exact ⟨(IntKind.u64.wrap ((IntKind.u64.wrap (x9_3 * 10)) + (((rd x0_12 x54_3) - 48) % 256))), (wrap64 (x54_3 + 1)), (by first | rfl | (simp; done) | (simp [nil_ne_, nil_eq_]; done) | (simp [*]; done)), (by first | rfl | (simp; done) | (simp [nil_ne_, nil_eq_]; done) | (simp [*]; done)), H', ⟨by have := HJ3.out; have := HJ12.out; have := HK3.out; have := HJ20.out; omega⟩, ⟨by (with_reducible repeat (first | apply Kd.V_alloc | apply Kd.V_drewN | apply Kd.V_drew)); exact HO_52.out⟩, ⟨by repeat (first | (with_reducible first | exact HB.out | apply below_alloc | apply pw_below_drewN | apply below_drew1) | exact HB.out)⟩⟩
             ·
              rw [if_neg c20] at H
              exact absurd H (by simp)
            ·
             rw [if_neg c19] at H
             exact absurd H (by simp)
           ·
            rw [if_neg c18] at H
            have c18b0 : decide (x54_3 < (x0_12.length : Int)) = false := decide_eq_false c18
            clear c18
            by_cases c26 : x9_3 > 9223372036854775807
            ·
             rw [if_pos c26] at H
             have c26b0 : decide (9223372036854775807 < x9_3) = true := decide_eq_true c26
             clear c26
             have HC27 := Aside0.mk H
             clear H
             go_upto_region 38 with (fail)
             go_cut [84] (fun v84 wc => ∃ (kq : Nat) (x84_26 : Bool), v84 = .bool x84_26 ∧ Aside0 (jsonparser_parseInt.j5 kq x84_26 = some (r1, r2, r3)) ∧ Aside0 (kq ≤ k3) ∧ Aside0 (Below w.heap.size w wc))
             case first =>
              have H := HC27.out
              clear HC27
              by_cases c28 : x6_3 = true
              ·
               subst c28
               have H1 : (jsonparser_parseInt.j5 k3 (x9_3 == 9223372036854775808)) = some (r1, r2, r3) := by rw [if_pos rfl] at H; exact H
               clear H
               have H := H1
               clear H1
               have H' := Aside0.mk H
               clear H
               go_wp2
               go_meet
               case rel => exact ⟨_, ((x9_3 == 9223372036854775808)), (by first | rfl | (simp; done) | (simp [nil_ne_, nil_eq_]; done) | (simp [*]; done)), H', ⟨by have := HJ3.out; have := HJ12.out; have := HK3.out; first | omega | exact Nat.le_refl _⟩, ⟨by repeat (first | (with_reducible first | exact HB.out | apply below_alloc | apply pw_below_drewN | apply below_drew1) | exact HB.out)⟩⟩
              ·
               replace c28 := Bool.eq_false_iff.mpr c28
               subst c28
               have H1 : (jsonparser_parseInt.j5 k3 false) = some (r1, r2, r3) := by rw [if_neg (show ¬ (false = true) by decide)] at H; exact H
               clear H
               have H := H1
               clear H1
               have H' := Aside0.mk H
               clear H
               go_wp2
               go_meet
               case rel => exact ⟨_, (false), (by first | rfl | (simp; done) | (simp [nil_ne_, nil_eq_]; done) | (simp [*]; done)), H', ⟨by have := HJ3.out; have := HJ12.out; have := HK3.out; first | omega | exact Nat.le_refl _⟩, ⟨by repeat (first | (with_reducible first | exact HB.out | apply below_alloc | apply pw_below_drewN | apply below_drew1) | exact HB.out)⟩⟩
             case rest =>
              clear HC27
              try clear c1
              try clear p1
              try clear q1
              try clear hx1
              try clear qi1
              try clear c2
              try clear c2b0
              try clear c2b1
              try clear c2b2
              try clear p2
              try clear c3
              try clear c3b0
              try clear c3b1
              try clear c5
              try clear c5b0
              try clear c5b1
              try clear c6
              try clear c6b0
              try clear c6b1
              try clear p6
              try clear c7
              try clear c7b0
              try clear c8
              try clear c8b0
              try clear c9
              try clear c9b0
              try clear c10
              try clear c10b0
              try clear c11
              try clear c11b0
              try clear c12
              try clear p12
              try clear q12
              try clear hx12
              try clear qi12
              try clear p13
              try clear q13
              try clear hx13
              try clear c14
              try clear c15
              try clear c15b0
              try clear c15b1
              try clear c16
              try clear q16
              try clear c18
              try clear c18b0
              try clear c19
              try clear c19b0
              try clear c20
              try clear c20b0
              try clear c22
              try clear c22b0
              try clear c22b1
              try clear c23
              try clear c24
              try clear c24b0
              try clear c25
              try clear c25b0
              try clear c26
              try clear c26b0
              try clear c28
              try clear hx127_0
              try clear hx128_0
              try clear hx134_0
              try clear p1
              try clear p12
              try clear p127
              try clear p128
              try clear p13
              try clear p134
              try clear p2
              try clear p6
              try clear q1
              try clear q12
              try clear q127
              try clear q128
              try clear q13
              try clear q134
              try clear q16
              obtain ⟨kq, x84_26, rfl, HA, HJ26, HB⟩ := hcut
              cases kq with
              | zero => exact absurd HA.out (by simp [jsonparser_parseInt.j5])
              | succ kj26 =>
               have H := HA.out
               clear HA
               simp only [jsonparser_parseInt.j5] at H
               by_cases c29 : x84_26 = true
               ·
                subst c29
                have H1 : (some ((-9223372036854775808), true, false)) = some (r1, r2, r3) := by rw [if_pos rfl] at H; exact H
                clear H
                have H := H1
                clear H1
                simp only [Option.some.injEq, Prod.mk.injEq] at H
                obtain ⟨rfl, rfl, rfl⟩ := H
                go_wp2
                go_ret3
                exact ⟨by first | rfl | (simp [errX_none, errX_some] <;> rfl) | (simp [*, errX_none, errX_some] <;> rfl), by repeat (first | (with_reducible first | exact HB.out | apply below_alloc | apply pw_below_drewN | apply below_drew1) | exact HB.out)⟩
               ·
                replace c29 := Bool.eq_false_iff.mpr c29
                subst c29
                have H1 : (some (0, false, true)) = some (r1, r2, r3) := by rw [if_neg (show ¬ (false = true) by decide)] at H; exact H
                clear H
                have H := H1
                clear H1
                simp only [Option.some.injEq, Prod.mk.injEq] at H
                obtain ⟨rfl, rfl, rfl⟩ := H
                go_wp2
                go_ret3
                exact ⟨by first | rfl | (simp [errX_none, errX_some] <;> rfl) | (simp [*, errX_none, errX_some] <;> rfl), by repeat (first | (with_reducible first | exact HB.out | apply below_alloc | apply pw_below_drewN | apply below_drew1) | exact HB.out)⟩
            ·
             rw [if_neg c26] at H
             have c26b0 : decide (9223372036854775807 < x9_3) = false := decide_eq_false c26
             clear c26
             by_cases c30 : x6_3 = true
             ·
              subst c30
              have H1 : (some (wrap64 (-(wrap64 (x9_3))), true, false)) = some (r1, r2, r3) := by rw [if_pos rfl] at H; exact H
              clear H
              have H := H1
              clear H1
              simp only [Option.some.injEq, Prod.mk.injEq] at H
              obtain ⟨rfl, rfl, rfl⟩ := H
              go_wp2
              go_ret3
              exact ⟨by first | rfl | (simp [errX_none, errX_some] <;> rfl) | (simp [*, errX_none, errX_some] <;> rfl), by repeat (first | (with_reducible first | exact HB.out | apply below_alloc | apply pw_below_drewN | apply below_drew1) | exact HB.out)⟩
             ·
              replace c30 := Bool.eq_false_iff.mpr c30
              subst c30
              have H1 : (some (wrap64 (x9_3), true, false)) = some (r1, r2, r3) := by rw [if_neg (show ¬ (false = true) by decide)] at H; exact H
              clear H
              have H := H1
              clear H1
              simp only [Option.some.injEq, Prod.mk.injEq] at H
              obtain ⟨rfl, rfl, rfl⟩ := H
              go_wp2
              go_ret3
              exact ⟨by first | rfl | (simp [errX_none, errX_some] <;> rfl) | (simp [*, errX_none, errX_some] <;> rfl), by repeat (first | (with_reducible first | exact HB.out | apply below_alloc | apply pw_below_drewN | apply below_drew1) | exact HB.out)⟩
  ·
   rw [if_neg c3] at H
   exact absurd H (by simp)

end Go.Proofs.YtmkceaepdanmiaaDoor.PFnJqUintInt
