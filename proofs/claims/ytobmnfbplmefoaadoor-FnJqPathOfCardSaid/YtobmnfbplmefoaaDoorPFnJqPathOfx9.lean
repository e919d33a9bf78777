-- Written by a program of this session (wip/prx) out of the print of the loaded functions.
import Derived.Test.YtobmnfbplmefoaaDoorPFnJqPathOfx0
import Derived.Test.YtobmnfbplmefoaaDoorPFnJqPathOfx1
import Derived.Test.YtobmnfbplmefoaaDoorPFnJqPathOfx2
import Derived.Test.YtobmnfbplmefoaaDoorPFnJqPathOfx4
import Derived.Test.YtobmnfbplmefoaaDoorPFnJqPathOfx8
import Derived.Test.YtobmnfbplmefoaaDoorGXFnJqPathOf
import Derived.Test.YtobmnfbplmefoaaDoorWLFnJqPathOf
namespace Go.Proofs.YtobmnfbplmefoaaDoor.PFnJqPathOf
open Go.RowKit Go.Proofs.YtobmnfbplmefoaaDoorW.PrintWords Go.Proofs.YtobmnfbplmefoaaDoorW.PrintLast Go.Proofs.YtobmnfbplmefoaaDoorW.PrintMore
attribute [local go_sem] max2_int min2_int max_two min_two max_three min_three max_four min_four   -- for this text's walks alone
set_option linter.unusedVariables false
set_option linter.unusedSimpArgs false

/-! ### impl_JqParsePath: function 7 -/
def impl_JqParsePath.f (k : Nat) (a0 : ByteArray) : Option (List ByteArray × Bool) := (jsonparser_ParsePath.f k a0).bind fun bt187 => (if bt187.2.isNone = true then (some (bt187.1, true)) else (some (bt187.1, false)))
theorem impl_JqParsePath.mono : ∀ a0 k, LeO (impl_JqParsePath.f k a0) (impl_JqParsePath.f (k + 1) a0) := by
  intro a0 k
  unfold impl_JqParsePath.f
  repeat' first
      | (with_reducible exact jsonparser_ParsePath.mono _ _)
      | (with_reducible exact LeO.refl _)
      | (with_reducible exact LeO.none _)
      | (with_reducible refine LeO.ite ?_ ?_)
      | (with_reducible refine LeO.bind ?_ (fun _ => ?_))
      | exact jsonparser_ParsePath.mono _ _
      | exact LeO.none _
      | refine LeO.ite ?_ ?_
      | refine LeO.bind ?_ (fun _ => ?_)
set_option maxHeartbeats 8000000 in
set_option maxRecDepth 100000 in
theorem impl_JqParsePath.calls (k : Nat) (a0 : ByteArray) (r1 : List ByteArray) (r2 : Bool) (w : World) (h : impl_JqParsePath.f k a0 = some (r1, r2)) (hG : Glob w) :
    Calls Tryd.prog 7 #[.string a0] w fun e w' => ∃ v0_ : Value, e = .returned (.tuple #[v0_, .bool r2]) ∧ Kd.R Kd.string 9 w' w.heap.size (fun _ => True) v0_ r1 ∧ Below w.heap.size w w' := by
 have hu41 := Tryd.underlying41
 have HB := Aside0.mk (Below.refl w.heap.size w)
 have HG := Aside0.mk hG
 clear hG
 have H : ((jsonparser_ParsePath.f k a0).bind fun bt187 => (if bt187.2.isNone = true then (some (bt187.1, true)) else (some (bt187.1, false)))) = some (r1, r2) := h
 clear h
 replace H := Option.bind_eq_some_iff.mp H
 obtain ⟨⟨t187, t188⟩, A20, H⟩ := H
 replace H : (if t188.isNone = true then (some (t187, true)) else (some (t187, false))) = some (r1, r2) := H
 have A2 := Aside0.mk A20
 clear A20
 rcases t188 with _ | q191
 ·
  have H1 : (some (t187, true)) = some (r1, r2) := by rw [if_pos (show (none : Option Int).isNone = true by rfl)] at H; exact H
  clear H
  have H := H1
  clear H1
  try simp only [errX_none, errX_some]
  simp only [Option.some.injEq, Prod.mk.injEq] at H
  obtain ⟨rfl, rfl⟩ := H
  go_enter Tryd.func7, Tryd.ntmps7
  iterate 3 (try go_wp2_with (first | (go_at_call 13; (with_reducible refine (jsonparser_ParsePath.calls k a0 t187 none _ A2.out (HG.out.below (by repeat (first | (with_reducible first | exact HB.out | apply below_alloc | apply pw_below_drewN | apply below_drew1) | exact HB.out)))).mono ?_); rintro e w3 ⟨v189, evz_, rfl, ho0, hb⟩; have n0_ := Aside0.mk (Kd.R_lower ho0 (below_size (by repeat (first | (with_reducible first | exact HB.out | apply below_alloc | apply pw_below_drewN | apply below_drew1) | exact HB.out)))); have n1_ := Aside0.mk (below_step (by repeat (first | (with_reducible first | exact HB.out | apply below_alloc | apply pw_below_drewN | apply below_drew1) | exact HB.out)) hb); clear HB; have HO190 := n0_; have HB := n1_; clear n0_ n1_; (try clear hb); (try clear hb2); (try clear hk); (try clear hi); (try clear ho0); (try simp only [errX_none, errX_some]))); try go_quiet (first | (go_at_call 13; (with_reducible refine (jsonparser_ParsePath.calls k a0 t187 none _ A2.out (HG.out.below (by repeat (first | (with_reducible first | exact HB.out | apply below_alloc | apply pw_below_drewN | apply below_drew1) | exact HB.out)))).mono ?_); rintro e w3 ⟨v189, evz_, rfl, ho0, hb⟩; have n0_ := Aside0.mk (Kd.R_lower ho0 (below_size (by repeat (first | (with_reducible first | exact HB.out | apply below_alloc | apply pw_below_drewN | apply below_drew1) | exact HB.out)))); have n1_ := Aside0.mk (below_step (by repeat (first | (with_reducible first | exact HB.out | apply below_alloc | apply pw_below_drewN | apply below_drew1) | exact HB.out)) hb); clear HB; have HO190 := n0_; have HB := n1_; clear n0_ n1_; (try clear hb); (try clear hb2); (try clear hk); (try clear hi); (try clear ho0); (try simp only [errX_none, errX_some]))))
  go_ret2
  exact ⟨_, by first | rfl | (simp [errX_none, errX_some] <;> rfl) | (simp [*, errX_none, errX_some] <;> rfl), by (with_reducible repeat (first | apply Kd.R_alloc | apply Kd.R_drewN | apply Kd.R_drew)); exact HO190.out, by repeat (first | (with_reducible first | exact HB.out | apply below_alloc | apply pw_below_drewN | apply below_drew1) | exact HB.out)⟩
 ·
  have H1 : (some (t187, false)) = some (r1, r2) := by rw [if_neg (show ¬ (some q191).isNone = true by simp)] at H; exact H
  clear H
  have H := H1
  clear H1
  try simp only [errX_none, errX_some]
  simp only [Option.some.injEq, Prod.mk.injEq] at H
  obtain ⟨rfl, rfl⟩ := H
  go_enter Tryd.func7, Tryd.ntmps7
  iterate 3 (try go_wp2_with (first | (go_at_call 13; (with_reducible refine (jsonparser_ParsePath.calls k a0 t187 (some q191) _ A2.out (HG.out.below (by repeat (first | (with_reducible first | exact HB.out | apply below_alloc | apply pw_below_drewN | apply below_drew1) | exact HB.out)))).mono ?_); rintro e w4 ⟨v189, evt188, rfl, ho0, hb⟩; have n0_ := Aside0.mk (Kd.R_lower ho0 (below_size (by repeat (first | (with_reducible first | exact HB.out | apply below_alloc | apply pw_below_drewN | apply below_drew1) | exact HB.out)))); have n1_ := Aside0.mk (below_step (by repeat (first | (with_reducible first | exact HB.out | apply below_alloc | apply pw_below_drewN | apply below_drew1) | exact HB.out)) hb); clear HB; have HO190 := n0_; have HB := n1_; clear n0_ n1_; (try clear hb); (try clear hb2); (try clear hk); (try clear hi); (try clear ho0); (try simp only [errX_none, errX_some]))); try go_quiet (first | (go_at_call 13; (with_reducible refine (jsonparser_ParsePath.calls k a0 t187 (some q191) _ A2.out (HG.out.below (by repeat (first | (with_reducible first | exact HB.out | apply below_alloc | apply pw_below_drewN | apply below_drew1) | exact HB.out)))).mono ?_); rintro e w4 ⟨v189, evt188, rfl, ho0, hb⟩; have n0_ := Aside0.mk (Kd.R_lower ho0 (below_size (by repeat (first | (with_reducible first | exact HB.out | apply below_alloc | apply pw_below_drewN | apply below_drew1) | exact HB.out)))); have n1_ := Aside0.mk (below_step (by repeat (first | (with_reducible first | exact HB.out | apply below_alloc | apply pw_below_drewN | apply below_drew1) | exact HB.out)) hb); clear HB; have HO190 := n0_; have HB := n1_; clear n0_ n1_; (try clear hb); (try clear hb2); (try clear hk); (try clear hi); (try clear ho0); (try simp only [errX_none, errX_some]))))
  go_ret2
  exact ⟨_, by first | rfl | (simp [errX_none, errX_some] <;> rfl) | (simp [*, errX_none, errX_some] <;> rfl), by (with_reducible repeat (first | apply Kd.R_alloc | apply Kd.R_drewN | apply Kd.R_drew)); exact HO190.out, by repeat (first | (with_reducible first | exact HB.out | apply below_alloc | apply pw_below_drewN | apply below_drew1) | exact HB.out)⟩

/-! ### laws_sameStrings: function 8 -/
noncomputable def laws_sameStrings.l0 : Nat → List ByteArray → List ByteArray → Int → Option (Bool)
  | 0, _, _, _ => none
  | k + 1, x0, x1, x5 => if x5 < (x0.length : Int) then (if 0 ≤ x5 then (if x5 < (x1.length : Int) then (if (rdOf ByteArray.empty x0 x5).toList = (rdOf ByteArray.empty x1 x5).toList then (laws_sameStrings.l0 k x0 x1 (wrap64 (x5 + 1))) else (some false)) else (none)) else (none)) else (some true)
noncomputable def laws_sameStrings.f (k : Nat) (l0 : List ByteArray) (l1 : List ByteArray) : Option (Bool) := if (l0.length : Int) = (l1.length : Int) then (laws_sameStrings.l0 k l0 l1 0) else (some false)
theorem laws_sameStrings.mono_l : ∀ k, (∀ y0 y1 y2, LeO (laws_sameStrings.l0 k y0 y1 y2) (laws_sameStrings.l0 (k + 1) y0 y1 y2))
  | 0 => fun _ _ _ r h => by simp [laws_sameStrings.l0] at h
  | k + 1 => by
    have ih0 := laws_sameStrings.mono_l k
    · intro y0 y1 y2
      unfold laws_sameStrings.l0
      repeat' first
      | (with_reducible exact ih0 _ _ _)
      | (with_reducible exact LeO.refl _)
      | (with_reducible exact LeO.none _)
      | (with_reducible refine LeO.ite ?_ ?_)
      | (with_reducible refine LeO.bind ?_ (fun _ => ?_))
      | exact ih0 _ _ _
      | exact LeO.none _
      | refine LeO.ite ?_ ?_
      | refine LeO.bind ?_ (fun _ => ?_)
theorem laws_sameStrings.mono : ∀ a0 a1 k, LeO (laws_sameStrings.f k a0 a1) (laws_sameStrings.f (k + 1) a0 a1) := by
  intro a0 a1 k
  have ih0 := laws_sameStrings.mono_l k
  unfold laws_sameStrings.f
  repeat' first
      | (with_reducible exact ih0 _ _ _)
      | (with_reducible exact LeO.refl _)
      | (with_reducible exact LeO.none _)
      | (with_reducible refine LeO.ite ?_ ?_)
      | (with_reducible refine LeO.bind ?_ (fun _ => ?_))
      | exact ih0 _ _ _
      | exact LeO.none _
      | refine LeO.ite ?_ ?_
      | refine LeO.bind ?_ (fun _ => ?_)
set_option maxHeartbeats 8000000 in
set_option maxRecDepth 100000 in
theorem laws_sameStrings.calls (k : Nat) (A0 : Option Addr) (c0 : Nat) (l0 : List ByteArray) (A1 : Option Addr) (c1 : Nat) (l1 : List ByteArray) (r : Bool) (w : World) (hr0 : Kd.C Kd.string w A0 l0.length l0) (hc0 : l0.length ≤ c0) (hr1 : Kd.C Kd.string w A1 l1.length l1) (hc1 : l1.length ≤ c1) (h : laws_sameStrings.f k l0 l1 = some r) :
    Calls Tryd.prog 8 #[.slice A0 l0.length c0, .slice A1 l1.length c1] w fun e w' => e = .returned (.bool r) ∧ Drawn0 w w' := by
 have HR0 := Aside0.mk hr0
 have HC0 := Aside0.mk hc0
 clear hr0 hc0
 have HR1 := Aside0.mk hr1
 have HC1 := Aside0.mk hc1
 clear hr1 hc1
 have H : (if (l0.length : Int) = (l1.length : Int) then (laws_sameStrings.l0 k l0 l1 0) else (some false)) = some r := h
 clear h
 by_cases c3 : (l0.length : Int) = (l1.length : Int)
 ·
  rw [if_pos c3] at H
  have c3b0 : ((l0.length : Int) == (l1.length : Int)) = true := beq_iff_eq.mpr c3
  have c3b1 : ((l0.length : Int) != (l1.length : Int)) = false := bne_eq_false_iff_eq.mpr c3
  have c3b2 : (l0.length == l1.length) = true := by first | simpa using c3 | (simp at c3 ⊢; omega)
  clear c3
  have H' := Aside0.mk H
  clear H
  go_enter Tryd.func8, Tryd.ntmps8
  go_wp2
  repeat (go_quiet (fail); try go_wp2)
  try simp only [Act.put, List.setIfInBounds_toArray, List.set_cons_succ, List.set_cons_zero]
  go_loopg [5] k (fun kq v5 w' => ∃ (x5_1 : Int), v5 = .int .i64 x5_1 ∧ Aside0 (laws_sameStrings.l0 kq l0 l1 x5_1 = some r) ∧ Aside0 (kq ≤ k) ∧ Drawn0 w w')
  case atStart => exact ⟨(0), (by first | rfl | (simp; done) | (simp [nil_ne_, nil_eq_]; done) | (simp [*]; done)), H', ⟨Nat.le_refl _⟩, by repeat (first | exact Drawn0.refl _ | apply Drawn0.step)⟩
  case round =>
   clear H'
   try clear c1
   try clear p2
   try clear c3
   try clear c3b0
   try clear c3b1
   try clear c3b2
   obtain ⟨x5_1, rfl, HA, HK1, ⟨m1, rfl⟩⟩ := hrel
   cases gk with
   | zero => exact absurd HA.out (by simp [laws_sameStrings.l0])
   | succ k1 =>
    have H := HA.out
    clear HA
    simp only [laws_sameStrings.l0] at H
    by_cases c4 : x5_1 < (l0.length : Int)
    ·
     rw [if_pos c4] at H
     have c4b0 : decide (x5_1 < (l0.length : Int)) = true := decide_eq_true c4
     clear c4
     by_cases c5 : 0 ≤ x5_1
     ·
      rw [if_pos c5] at H
      have c5b0 : decide (0 ≤ x5_1) = true := decide_eq_true c5
      clear c5
      by_cases c6 : x5_1 < (l1.length : Int)
      ·
       rw [if_pos c6] at H
       have c6b0 : decide (x5_1 < (l1.length : Int)) = true := decide_eq_true c6
       clear c6
       by_cases c7 : (rdOf ByteArray.empty l0 x5_1).toList = (rdOf ByteArray.empty l1 x5_1).toList
       ·
        rw [if_pos c7] at H
        have c7b0 : ((rdOf ByteArray.empty l0 x5_1).toList == (rdOf ByteArray.empty l1 x5_1).toList) = true := beq_iff_eq.mpr c7
        have c7b1 : ((rdOf ByteArray.empty l0 x5_1).toList != (rdOf ByteArray.empty l1 x5_1).toList) = false := bne_eq_false_iff_eq.mpr c7
        clear c7
        have H' := Aside0.mk H
        clear H
        have p192 : 0 ≤ (x5_1 : Int) := of_decide_eq_true (by first | (with_reducible assumption) | assumption)
        have q192 : x5_1 < (l0.length : Int) := of_decide_eq_true (by first | (with_reducible assumption) | assumption)
        obtain ⟨ad192, e192, hx192_0⟩ := Kd.at_string HR0.out x5_1 p192 q192
        cases e192
        replace p192 := eq_true p192
        replace q192 := eq_true q192
        have p193 : 0 ≤ (x5_1 : Int) := of_decide_eq_true (by first | (with_reducible assumption) | assumption)
        have q193 : x5_1 < (l1.length : Int) := of_decide_eq_true (by first | (with_reducible assumption) | assumption)
        obtain ⟨ad193, e193, hx193_0⟩ := Kd.at_string HR1.out x5_1 p193 q193
        cases e193
        replace p193 := eq_true p193
        replace q193 := eq_true q193
        go_wp2
        repeat (go_quiet (fail); try go_wp2)
        go_roundg k1
        case measure => have := HK1.out; omega
        case rel => exact ⟨(wrap64 (x5_1 + 1)), (by first | rfl | (simp; done) | (simp [nil_ne_, nil_eq_]; done) | (simp [*]; done)), H', ⟨by have := HK1.out; omega⟩, by repeat (first | exact Drawn0.refl _ | apply Drawn0.step)⟩
       ·
        rw [if_neg c7] at H
        have c7b0 : ((rdOf ByteArray.empty l0 x5_1).toList == (rdOf ByteArray.empty l1 x5_1).toList) = false := beq_eq_false_iff_ne.mpr c7
        have c7b1 : ((rdOf ByteArray.empty l0 x5_1).toList != (rdOf ByteArray.empty l1 x5_1).toList) = true := bne_iff_ne.mpr c7
        obtain rfl := Option.some.inj H
        have p192 : 0 ≤ (x5_1 : Int) := of_decide_eq_true (by first | (with_reducible assumption) | assumption)
        have q192 : x5_1 < (l0.length : Int) := of_decide_eq_true (by first | (with_reducible assumption) | assumption)
        obtain ⟨ad192, e192, hx192_0⟩ := Kd.at_string HR0.out x5_1 p192 q192
        cases e192
        replace p192 := eq_true p192
        replace q192 := eq_true q192
        have p193 : 0 ≤ (x5_1 : Int) := of_decide_eq_true (by first | (with_reducible assumption) | assumption)
        have q193 : x5_1 < (l1.length : Int) := of_decide_eq_true (by first | (with_reducible assumption) | assumption)
        obtain ⟨ad193, e193, hx193_0⟩ := Kd.at_string HR1.out x5_1 p193 q193
        cases e193
        replace p193 := eq_true p193
        replace q193 := eq_true q193
        go_wp2
        repeat (go_quiet (fail); try go_wp2)
        go_ret
        exact ⟨by first | rfl | (simp; done) | (simp [nil_ne_, nil_eq_]; done) | (simp [*]; done), by repeat (first | exact Drawn0.refl _ | apply Drawn0.step)⟩
      ·
       rw [if_neg c6] at H
       exact absurd H (by simp)
     ·
      rw [if_neg c5] at H
      exact absurd H (by simp)
    ·
     rw [if_neg c4] at H
     have c4b0 : decide (x5_1 < (l0.length : Int)) = false := decide_eq_false c4
     clear c4
     obtain rfl := Option.some.inj H
     go_wp2
     repeat (go_quiet (fail); try go_wp2)
     go_ret
     exact ⟨by first | rfl | (simp; done) | (simp [nil_ne_, nil_eq_]; done) | (simp [*]; done), by repeat (first | exact Drawn0.refl _ | apply Drawn0.step)⟩
 ·
  rw [if_neg c3] at H
  have c3b0 : ((l0.length : Int) == (l1.length : Int)) = false := beq_eq_false_iff_ne.mpr c3
  have c3b1 : ((l0.length : Int) != (l1.length : Int)) = true := bne_iff_ne.mpr c3
  have c3b2 : (l0.length == l1.length) = false := by first | simpa using c3 | (simp at c3 ⊢; omega)
  obtain rfl := Option.some.inj H
  go_enter Tryd.func8, Tryd.ntmps8
  go_wp2
  repeat (go_quiet (fail); try go_wp2)
  go_ret
  exact ⟨by first | rfl | (simp; done) | (simp [nil_ne_, nil_eq_]; done) | (simp [*]; done), by repeat (first | exact Drawn0.refl _ | apply Drawn0.step)⟩

/-! ### laws_FnJqPathOf: function 3 -/
mutual
noncomputable def laws_FnJqPathOf.j0 : Nat → List ByteArray → List Int → Bool → Bool → Option (Bool)
  | 0, _, _, _, _ => none
  | k + 1, x0, x1, x2, x19 => if x19 = true then (some true) else (if (x0.length : Int) = 0 then (laws_FnJqPathOf.j1 k x0 x1 x2 true) else (if (x0.length : Int) > 50 then (laws_FnJqPathOf.j1 k x0 x1 x2 true) else (laws_FnJqPathOf.j1 k x0 x1 x2 (decide ((x1.length : Int) > 50)))))
noncomputable def laws_FnJqPathOf.j1 : Nat → List ByteArray → List Int → Bool → Bool → Option (Bool)
  | 0, _, _, _, _ => none
  | k + 1, x0, x1, x2, x32 => if x32 = true then (some true) else (laws_FnJqPathOf.l0 k x0 x1 x2 0)
noncomputable def laws_FnJqPathOf.l0 : Nat → List ByteArray → List Int → Bool → Int → Option (Bool)
  | 0, _, _, _, _ => none
  | k + 1, x0, x1, x2, x7 => if x7 < (x0.length : Int) then (if 0 ≤ x7 then (if ((rdOf ByteArray.empty x0 x7).size : Int) > 100 then (some true) else ((spec_UTF8.f k (rdOf ByteArray.empty x0 x7)).bind fun t197 => (if t197 = true then (laws_FnJqPathOf.l0 k x0 x1 x2 (wrap64 (x7 + 1))) else (some true)))) else (none)) else ((laws_jqPathOf.f k x0 x1 x2).bind fun bt198 => ((impl_JqParsePath.f k bt198.1).bind fun bt202 => (if bt202.2 = true then ((laws_sameStrings.f k bt202.1 bt198.2).bind fun t206 => (some t206)) else (some false))))
end
noncomputable def laws_FnJqPathOf.f (k : Nat) (l0 : List ByteArray) (l1 : List Int) (a2 : Bool) : Option (Bool) := (laws_zzFits1.f k l0).bind fun t194 => (if t194 = true then (laws_FnJqPathOf.j0 k l0 l1 a2 (decide ((l1.length : Int) > 2147483647))) else (laws_FnJqPathOf.j0 k l0 l1 a2 true))
theorem laws_FnJqPathOf.mono_l : ∀ k, (∀ y0 y1 y2 y3, LeO (laws_FnJqPathOf.j0 k y0 y1 y2 y3) (laws_FnJqPathOf.j0 (k + 1) y0 y1 y2 y3)) ∧ (∀ y0 y1 y2 y3, LeO (laws_FnJqPathOf.j1 k y0 y1 y2 y3) (laws_FnJqPathOf.j1 (k + 1) y0 y1 y2 y3)) ∧ (∀ y0 y1 y2 y3, LeO (laws_FnJqPathOf.l0 k y0 y1 y2 y3) (laws_FnJqPathOf.l0 (k + 1) y0 y1 y2 y3))
  | 0 => ⟨fun _ _ _ _ r h => by simp [laws_FnJqPathOf.j0] at h, fun _ _ _ _ r h => by simp [laws_FnJqPathOf.j1] at h, fun _ _ _ _ r h => by simp [laws_FnJqPathOf.l0] at h⟩
  | k + 1 => by
    obtain ⟨ih0, ih1, ih2⟩ := laws_FnJqPathOf.mono_l k
    refine ⟨?_, ?_, ?_⟩
    · intro y0 y1 y2 y3
      unfold laws_FnJqPathOf.j0
      repeat' first
      | (with_reducible exact ih0 _ _ _ _)
      | (with_reducible exact ih1 _ _ _ _)
      | (with_reducible exact ih2 _ _ _ _)
      | (with_reducible exact impl_JqParsePath.mono _ _)
      | (with_reducible exact laws_jqPathOf.mono _ _ _ _)
      | (with_reducible exact laws_sameStrings.mono _ _ _)
      | (with_reducible exact laws_zzFits1.mono _ _)
      | (with_reducible exact spec_UTF8.mono _ _)
      | (with_reducible exact LeO.refl _)
      | (with_reducible exact LeO.none _)
      | (with_reducible refine LeO.ite ?_ ?_)
      | (with_reducible refine LeO.bind ?_ (fun _ => ?_))
      | exact ih0 _ _ _ _
      | exact ih1 _ _ _ _
      | exact ih2 _ _ _ _
      | exact impl_JqParsePath.mono _ _
      | exact laws_jqPathOf.mono _ _ _ _
      | exact laws_sameStrings.mono _ _ _
      | exact laws_zzFits1.mono _ _
      | exact spec_UTF8.mono _ _
      | exact LeO.none _
      | refine LeO.ite ?_ ?_
      | refine LeO.bind ?_ (fun _ => ?_)
    · intro y0 y1 y2 y3
      unfold laws_FnJqPathOf.j1
      repeat' first
      | (with_reducible exact ih0 _ _ _ _)
      | (with_reducible exact ih1 _ _ _ _)
      | (with_reducible exact ih2 _ _ _ _)
      | (with_reducible exact impl_JqParsePath.mono _ _)
      | (with_reducible exact laws_jqPathOf.mono _ _ _ _)
      | (with_reducible exact laws_sameStrings.mono _ _ _)
      | (with_reducible exact laws_zzFits1.mono _ _)
      | (with_reducible exact spec_UTF8.mono _ _)
      | (with_reducible exact LeO.refl _)
      | (with_reducible exact LeO.none _)
      | (with_reducible refine LeO.ite ?_ ?_)
      | (with_reducible refine LeO.bind ?_ (fun _ => ?_))
      | exact ih0 _ _ _ _
      | exact ih1 _ _ _ _
      | exact ih2 _ _ _ _
      | exact impl_JqParsePath.mono _ _
      | exact laws_jqPathOf.mono _ _ _ _
      | exact laws_sameStrings.mono _ _ _
      | exact laws_zzFits1.mono _ _
      | exact spec_UTF8.mono _ _
      | exact LeO.none _
      | refine LeO.ite ?_ ?_
      | refine LeO.bind ?_ (fun _ => ?_)
    · intro y0 y1 y2 y3
      unfold laws_FnJqPathOf.l0
      repeat' first
      | (with_reducible exact ih0 _ _ _ _)
      | (with_reducible exact ih1 _ _ _ _)
      | (with_reducible exact ih2 _ _ _ _)
      | (with_reducible exact impl_JqParsePath.mono _ _)
      | (with_reducible exact laws_jqPathOf.mono _ _ _ _)
      | (with_reducible exact laws_sameStrings.mono _ _ _)
      | (with_reducible exact laws_zzFits1.mono _ _)
      | (with_reducible exact spec_UTF8.mono _ _)
      | (with_reducible exact LeO.refl _)
      | (with_reducible exact LeO.none _)
      | (with_reducible refine LeO.ite ?_ ?_)
      | (with_reducible refine LeO.bind ?_ (fun _ => ?_))
      | exact ih0 _ _ _ _
      | exact ih1 _ _ _ _
      | exact ih2 _ _ _ _
      | exact impl_JqParsePath.mono _ _
      | exact laws_jqPathOf.mono _ _ _ _
      | exact laws_sameStrings.mono _ _ _
      | exact laws_zzFits1.mono _ _
      | exact spec_UTF8.mono _ _
      | exact LeO.none _
      | refine LeO.ite ?_ ?_
      | refine LeO.bind ?_ (fun _ => ?_)
theorem laws_FnJqPathOf.mono : ∀ a0 a1 a2 k, LeO (laws_FnJqPathOf.f k a0 a1 a2) (laws_FnJqPathOf.f (k + 1) a0 a1 a2) := by
  intro a0 a1 a2 k
  obtain ⟨ih0, ih1, ih2⟩ := laws_FnJqPathOf.mono_l k
  unfold laws_FnJqPathOf.f
  repeat' first
      | (with_reducible exact ih0 _ _ _ _)
      | (with_reducible exact ih1 _ _ _ _)
      | (with_reducible exact ih2 _ _ _ _)
      | (with_reducible exact impl_JqParsePath.mono _ _)
      | (with_reducible exact laws_jqPathOf.mono _ _ _ _)
      | (with_reducible exact laws_sameStrings.mono _ _ _)
      | (with_reducible exact laws_zzFits1.mono _ _)
      | (with_reducible exact spec_UTF8.mono _ _)
      | (with_reducible exact LeO.refl _)
      | (with_reducible exact LeO.none _)
      | (with_reducible refine LeO.ite ?_ ?_)
      | (with_reducible refine LeO.bind ?_ (fun _ => ?_))
      | exact ih0 _ _ _ _
      | exact ih1 _ _ _ _
      | exact ih2 _ _ _ _
      | exact impl_JqParsePath.mono _ _
      | exact laws_jqPathOf.mono _ _ _ _
      | exact laws_sameStrings.mono _ _ _
      | exact laws_zzFits1.mono _ _
      | exact spec_UTF8.mono _ _
      | exact LeO.none _
      | refine LeO.ite ?_ ?_
      | refine LeO.bind ?_ (fun _ => ?_)
set_option maxHeartbeats 8000000 in
set_option maxRecDepth 100000 in
theorem laws_FnJqPathOf.calls (k : Nat) (A0 : Option Addr) (c0 : Nat) (l0 : List ByteArray) (A1 : Option Addr) (c1 : Nat) (l1 : List Int) (a2 : Bool) (r : Bool) (w : World) (hr0 : Kd.C Kd.string w A0 l0.length l0) (hc0 : l0.length ≤ c0) (hr1 : Kd.C (Kd.int .u8) w A1 l1.length l1) (hc1 : l1.length ≤ c1) (h : laws_FnJqPathOf.f k l0 l1 a2 = some r) (hG : Glob w) :
    Calls Tryd.prog 3 #[.slice A0 l0.length c0, .slice A1 l1.length c1, .bool a2] w fun e w' => e = .returned (.bool r) ∧ Below w.heap.size w w' := by
 have HR0 := Aside0.mk hr0
 have HC0 := Aside0.mk hc0
 clear hr0 hc0
 have HR1 := Aside0.mk hr1
 have HC1 := Aside0.mk hc1
 clear hr1 hc1
 have HB := Aside0.mk (Below.refl w.heap.size w)
 have HG := Aside0.mk hG
 clear hG
 have H : ((laws_zzFits1.f k l0).bind fun t194 => (if t194 = true then (laws_FnJqPathOf.j0 k l0 l1 a2 (decide ((l1.length : Int) > 2147483647))) else (laws_FnJqPathOf.j0 k l0 l1 a2 true))) = some r := h
 clear h
 have HC4 := Aside0.mk H
 clear H
 go_enter Tryd.func3, Tryd.ntmps3
 go_upto_region 1 with (fail)
 go_cut [19] (fun v19 wc => ∃ (kq : Nat) (x19_3 : Bool), v19 = .bool x19_3 ∧ Aside0 (laws_FnJqPathOf.j0 kq l0 l1 a2 x19_3 = some r) ∧ Aside0 (kq ≤ k) ∧ Aside0 (Below w.heap.size w wc))
 case first =>
  have H := HC4.out
  clear HC4
  replace H := Option.bind_eq_some_iff.mp H
  obtain ⟨t194, A50, H⟩ := H
  replace H : (if t194 = true then (laws_FnJqPathOf.j0 k l0 l1 a2 (decide ((l1.length : Int) > 2147483647))) else (laws_FnJqPathOf.j0 k l0 l1 a2 true)) = some r := H
  have A5 := Aside0.mk A50
  clear A50
  by_cases c6 : t194 = true
  ·
   subst c6
   have H1 : (laws_FnJqPathOf.j0 k l0 l1 a2 (decide ((l1.length : Int) > 2147483647))) = some r := by rw [if_pos rfl] at H; exact H
   clear H
   have H := H1
   clear H1
   have H' := Aside0.mk H
   clear H
   go_wp2_with (first | ((with_reducible refine gate_callee (f := 4) rfl ?_); refine goesL_ (some 13) rfl rfl Tryd.func4 (by kernel_rfl) rfl #[.slice A0 l0.length c0] rfl (by (try simp only [List.map_toArray, List.map_cons, List.map_nil]); first | done | rfl | (simp only [List.length_drop, List.length_take]; rfl)) ?_; (with_reducible refine (laws_zzFits1.calls k _ _ l0 true _ ?side1 ?side2 A5.out).mono ?_); (case side1 => repeat (first | exact (Kd.C_below HR0.out HB.out) | (with_reducible refine Kd.C_alloc ?_ _) | (with_reducible refine Kd.C_drewN ?_ _) | (with_reducible refine Kd.C_drew ?_))); (case side2 => exact HC0.out); rintro e w' ⟨rfl, ⟨nd, rfl⟩⟩; refine ⟨_, rfl, ?_⟩))
   go_meet
   case rel => exact ⟨_, (decide ((l1.length : Int) > 2147483647)), (by first | rfl | (simp; done) | (simp [nil_ne_, nil_eq_]; done) | (simp [*]; done)), H', ⟨by first | omega | exact Nat.le_refl _⟩, ⟨by repeat (first | (with_reducible first | exact HB.out | apply below_alloc | apply pw_below_drewN | apply below_drew1) | exact HB.out)⟩⟩
  ·
   replace c6 := Bool.eq_false_iff.mpr c6
   subst c6
   have H1 : (laws_FnJqPathOf.j0 k l0 l1 a2 true) = some r := by rw [if_neg (show ¬ (false = true) by decide)] at H; exact H
   clear H
   have H := H1
   clear H1
   have H' := Aside0.mk H
   clear H
   go_wp2_with (first | ((with_reducible refine gate_callee (f := 4) rfl ?_); refine goesL_ (some 13) rfl rfl Tryd.func4 (by kernel_rfl) rfl #[.slice A0 l0.length c0] rfl (by (try simp only [List.map_toArray, List.map_cons, List.map_nil]); first | done | rfl | (simp only [List.length_drop, List.length_take]; rfl)) ?_; (with_reducible refine (laws_zzFits1.calls k _ _ l0 false _ ?side1 ?side2 A5.out).mono ?_); (case side1 => repeat (first | exact (Kd.C_below HR0.out HB.out) | (with_reducible refine Kd.C_alloc ?_ _) | (with_reducible refine Kd.C_drewN ?_ _) | (with_reducible refine Kd.C_drew ?_))); (case side2 => exact HC0.out); rintro e w' ⟨rfl, ⟨nd, rfl⟩⟩; refine ⟨_, rfl, ?_⟩))
   go_meet
   case rel => exact ⟨_, (true), (by first | rfl | (simp; done) | (simp [nil_ne_, nil_eq_]; done) | (simp [*]; done)), H', ⟨by first | omega | exact Nat.le_refl _⟩, ⟨by repeat (first | (with_reducible first | exact HB.out | apply below_alloc | apply pw_below_drewN | apply below_drew1) | exact HB.out)⟩⟩
 case rest =>
  clear HC4
  try clear c1
  try clear p2
  try clear c3
  try clear c4
  try clear c6
  obtain ⟨kq, x19_3, rfl, HA, HJ3, HB⟩ := hcut
  cases kq with
  | zero => exact absurd HA.out (by simp [laws_FnJqPathOf.j0])
  | succ kj3 =>
   have H := HA.out
   clear HA
   simp only [laws_FnJqPathOf.j0] at H
   by_cases c7 : x19_3 = true
   ·
    subst c7
    have H1 : (some true) = some r := by rw [if_pos rfl] at H; exact H
    clear H
    have H := H1
    clear H1
    obtain rfl := Option.some.inj H
    go_wp2
    go_ret
    exact ⟨by first | rfl | (simp [errX_none, errX_some] <;> rfl) | (simp [*, errX_none, errX_some] <;> rfl), by repeat (first | (with_reducible first | exact HB.out | apply below_alloc | apply pw_below_drewN | apply below_drew1) | exact HB.out)⟩
   ·
    replace c7 := Bool.eq_false_iff.mpr c7
    subst c7
    have H1 : (if (l0.length : Int) = 0 then (laws_FnJqPathOf.j1 kj3 l0 l1 a2 true) else (if (l0.length : Int) > 50 then (laws_FnJqPathOf.j1 kj3 l0 l1 a2 true) else (laws_FnJqPathOf.j1 kj3 l0 l1 a2 (decide ((l1.length : Int) > 50))))) = some r := by rw [if_neg (show ¬ (false = true) by decide)] at H; exact H
    clear H
    have H := H1
    clear H1
    have HC8 := Aside0.mk H
    clear H
    go_upto_region 3 with (fail)
    go_cut [32] (fun v32 wc => ∃ (kq : Nat) (x32_7 : Bool), v32 = .bool x32_7 ∧ Aside0 (laws_FnJqPathOf.j1 kq l0 l1 a2 x32_7 = some r) ∧ Aside0 (kq ≤ kj3) ∧ Aside0 (Below w.heap.size w wc))
    case first =>
     have H := HC8.out
     clear HC8
     by_cases c9 : (l0.length : Int) = 0
     ·
      rw [if_pos c9] at H
      have c9b0 : ((l0.length : Int) == 0) = true := beq_iff_eq.mpr c9
      have c9b1 : ((l0.length : Int) != 0) = false := bne_eq_false_iff_eq.mpr c9
      clear c9
      (first | rw [c9b0] | (simp only [i64_w, i32_w]; rw [c9b0]) | rw [c9b1] | skip)
      have H' := Aside0.mk H
      clear H
      go_wp2
      go_meet
      case rel => exact ⟨_, (true), (by first | rfl | (simp; done) | (simp [nil_ne_, nil_eq_]; done) | (simp [*]; done)), H', ⟨by have := HJ3.out; first | omega | exact Nat.le_refl _⟩, ⟨by repeat (first | (with_reducible first | exact HB.out | apply below_alloc | apply pw_below_drewN | apply below_drew1) | exact HB.out)⟩⟩
     ·
      rw [if_neg c9] at H
      have c9b0 : ((l0.length : Int) == 0) = false := beq_eq_false_iff_ne.mpr c9
      have c9b1 : ((l0.length : Int) != 0) = true := bne_iff_ne.mpr c9
      have c9b2 : ¬ (l0 = []) := fun h_ => c9 (by rw [h_]; rfl)
      (first | rw [c9b0] | (simp only [i64_w, i32_w]; rw [c9b0]) | rw [c9b1] | skip)
      by_cases c10 : (l0.length : Int) > 50
      ·
       rw [if_pos c10] at H
       have c10b0 : decide (50 < (l0.length : Int)) = true := decide_eq_true c10
       have c10b1 : decide (50 < l0.length) = true := decide_eq_true (by omega)
       clear c10
       have H' := Aside0.mk H
       clear H
       go_wp2
       go_meet
       case rel => exact ⟨_, (true), (by first | rfl | (simp; done) | (simp [nil_ne_, nil_eq_]; done) | (simp [*]; done)), H', ⟨by have := HJ3.out; first | omega | exact Nat.le_refl _⟩, ⟨by repeat (first | (with_reducible first | exact HB.out | apply below_alloc | apply pw_below_drewN | apply below_drew1) | exact HB.out)⟩⟩
      ·
       rw [if_neg c10] at H
       have c10b0 : decide (50 < (l0.length : Int)) = false := decide_eq_false c10
       have c10b1 : decide (50 < l0.length) = false := decide_eq_false (by omega)
       clear c10
       have H' := Aside0.mk H
       clear H
       go_wp2
       go_meet
       case rel => exact ⟨_, (decide ((l1.length : Int) > 50)), (by first | rfl | (simp; done) | (simp [nil_ne_, nil_eq_]; done) | (simp [*]; done)), H', ⟨by have := HJ3.out; first | omega | exact Nat.le_refl _⟩, ⟨by repeat (first | (with_reducible first | exact HB.out | apply below_alloc | apply pw_below_drewN | apply below_drew1) | exact HB.out)⟩⟩
    case rest =>
     clear HC8
     try clear c1
     try clear p2
     try clear c3
     try clear c4
     try clear c6
     try clear c7
     try clear c9
     try clear c9b0
     try clear c9b1
     try clear c9b2
     try clear c10
     try clear c10b0
     try clear c10b1
     try clear p2
     obtain ⟨kq, x32_7, rfl, HA, HJ7, HB⟩ := hcut
     cases kq with
     | zero => exact absurd HA.out (by simp [laws_FnJqPathOf.j1])
     | succ kj7 =>
      have H := HA.out
      clear HA
      simp only [laws_FnJqPathOf.j1] at H
      by_cases c11 : x32_7 = true
      ·
       subst c11
       have H1 : (some true) = some r := by rw [if_pos rfl] at H; exact H
       clear H
       have H := H1
       clear H1
       obtain rfl := Option.some.inj H
       go_wp2
       go_ret
       exact ⟨by first | rfl | (simp [errX_none, errX_some] <;> rfl) | (simp [*, errX_none, errX_some] <;> rfl), by repeat (first | (with_reducible first | exact HB.out | apply below_alloc | apply pw_below_drewN | apply below_drew1) | exact HB.out)⟩
      ·
       replace c11 := Bool.eq_false_iff.mpr c11
       subst c11
       have H1 : (laws_FnJqPathOf.l0 kj7 l0 l1 a2 0) = some r := by rw [if_neg (show ¬ (false = true) by decide)] at H; exact H
       clear H
       have H := H1
       clear H1
       have H' := Aside0.mk H
       clear H
       go_wp2
       try simp only [Act.put, List.setIfInBounds_toArray, List.set_cons_succ, List.set_cons_zero]
       go_loopg [7] kj7 (fun kq v7 w' => ∃ (x7_3 : Int), v7 = .int .i64 x7_3 ∧ Aside0 (laws_FnJqPathOf.l0 kq l0 l1 a2 x7_3 = some r) ∧ Aside0 (kq ≤ kj7) ∧ Aside0 (Below w.heap.size w w'))
       case atStart => exact ⟨(0), (by first | rfl | (simp; done) | (simp [nil_ne_, nil_eq_]; done) | (simp [*]; done)), H', ⟨Nat.le_refl _⟩, ⟨by repeat (first | (with_reducible first | exact HB.out | apply below_alloc | apply pw_below_drewN | apply below_drew1) | exact HB.out)⟩⟩
       case round =>
        clear H'
        try clear c1
        try clear p2
        try clear c3
        try clear c4
        try clear c6
        try clear c7
        try clear c9
        try clear c9b0
        try clear c9b1
        try clear c9b2
        try clear c10
        try clear c10b0
        try clear c10b1
        try clear c11
        try clear p2
        obtain ⟨x7_3, rfl, HA, HK3, HB⟩ := hrel
        cases gk with
        | zero => exact absurd HA.out (by simp [laws_FnJqPathOf.l0])
        | succ k3 =>
         have H := HA.out
         clear HA
         simp only [laws_FnJqPathOf.l0] at H
         by_cases c12 : x7_3 < (l0.length : Int)
         ·
          rw [if_pos c12] at H
          have c12b0 : decide (x7_3 < (l0.length : Int)) = true := decide_eq_true c12
          clear c12
          by_cases c13 : 0 ≤ x7_3
          ·
           rw [if_pos c13] at H
           have c13b0 : decide (0 ≤ x7_3) = true := decide_eq_true c13
           clear c13
           by_cases c14 : ((rdOf ByteArray.empty l0 x7_3).size : Int) > 100
           ·
            rw [if_pos c14] at H
            have c14b0 : decide (100 < ((rdOf ByteArray.empty l0 x7_3).size : Int)) = true := decide_eq_true c14
            have c14b1 : decide (100 < (rdOf ByteArray.empty l0 x7_3).size) = true := decide_eq_true (by omega)
            clear c14
            obtain rfl := Option.some.inj H
            have p195 : 0 ≤ (x7_3 : Int) := of_decide_eq_true (by first | (with_reducible assumption) | assumption)
            have q195 : x7_3 < (l0.length : Int) := of_decide_eq_true (by first | (with_reducible assumption) | assumption)
            obtain ⟨ad195, e195, hx195_0⟩ := Kd.at_string HR0.out x7_3 p195 q195
            cases e195
            replace hx195_0 := (HB.out.cell (World.block_lt_of_cell? w _ hx195_0)).trans hx195_0
            replace p195 := eq_true p195
            replace q195 := eq_true q195
            go_wp2
            go_ret
            exact ⟨by first | rfl | (simp [errX_none, errX_some] <;> rfl) | (simp [*, errX_none, errX_some] <;> rfl), by repeat (first | (with_reducible first | exact HB.out | apply below_alloc | apply pw_below_drewN | apply below_drew1) | exact HB.out)⟩
           ·
            rw [if_neg c14] at H
            have c14b0 : decide (100 < ((rdOf ByteArray.empty l0 x7_3).size : Int)) = false := decide_eq_false c14
            have c14b1 : decide (100 < (rdOf ByteArray.empty l0 x7_3).size) = false := decide_eq_false (by omega)
            clear c14
            replace H := Option.bind_eq_some_iff.mp H
            obtain ⟨t197, A150, H⟩ := H
            replace H : (if t197 = true then (laws_FnJqPathOf.l0 k3 l0 l1 a2 (wrap64 (x7_3 + 1))) else (some true)) = some r := H
            have A15 := Aside0.mk A150
            clear A150
            by_cases c16 : t197 = true
            ·
             subst c16
             have H1 : (laws_FnJqPathOf.l0 k3 l0 l1 a2 (wrap64 (x7_3 + 1))) = some r := by rw [if_pos rfl] at H; exact H
             clear H
             have H := H1
             clear H1
             have H' := Aside0.mk H
             clear H
             have p195 : 0 ≤ (x7_3 : Int) := of_decide_eq_true (by first | (with_reducible assumption) | assumption)
             have q195 : x7_3 < (l0.length : Int) := of_decide_eq_true (by first | (with_reducible assumption) | assumption)
             obtain ⟨ad195, e195, hx195_0⟩ := Kd.at_string HR0.out x7_3 p195 q195
             cases e195
             replace hx195_0 := (HB.out.cell (World.block_lt_of_cell? w _ hx195_0)).trans hx195_0
             replace p195 := eq_true p195
             replace q195 := eq_true q195
             have p196 : 0 ≤ (x7_3 : Int) := of_decide_eq_true (by first | (with_reducible assumption) | assumption)
             have q196 : x7_3 < (l0.length : Int) := of_decide_eq_true (by first | (with_reducible assumption) | assumption)
             obtain ⟨ad196, e196, hx196_0⟩ := Kd.at_string HR0.out x7_3 p196 q196
             obtain rfl : ad195 = ad196 := (by injection e196)
             replace hx196_0 := (HB.out.cell (World.block_lt_of_cell? w _ hx196_0)).trans hx196_0
             replace p196 := eq_true p196
             replace q196 := eq_true q196
             go_wp2_with (first | (go_at_call 5; (with_reducible refine (spec_UTF8.calls k3 (rdOf ByteArray.empty l0 x7_3) true _ A15.out).mono ?_); rintro e w' ⟨rfl, ⟨nd, rfl⟩⟩))
             go_roundg k3
             case measure => have := HJ3.out; have := HJ7.out; have := HK3.out; omega
             case rel => exact ⟨(wrap64 (x7_3 + 1)), (by first | rfl | (simp; done) | (simp [nil_ne_, nil_eq_]; done) | (simp [*]; done)), H', ⟨by have := HJ3.out; have := HJ7.out; have := HK3.out; omega⟩, ⟨by repeat (first | (with_reducible first | exact HB.out | apply below_alloc | apply pw_below_drewN | apply below_drew1) | exact HB.out)⟩⟩
            ·
             replace c16 := Bool.eq_false_iff.mpr c16
             subst c16
             have H1 : (some true) = some r := by rw [if_neg (show ¬ (false = true) by decide)] at H; exact H
             clear H
             have H := H1
             clear H1
             obtain rfl := Option.some.inj H
             have p195 : 0 ≤ (x7_3 : Int) := of_decide_eq_true (by first | (with_reducible assumption) | assumption)
             have q195 : x7_3 < (l0.length : Int) := of_decide_eq_true (by first | (with_reducible assumption) | assumption)
             obtain ⟨ad195, e195, hx195_0⟩ := Kd.at_string HR0.out x7_3 p195 q195
             cases e195
             replace hx195_0 := (HB.out.cell (World.block_lt_of_cell? w _ hx195_0)).trans hx195_0
             replace p195 := eq_true p195
             replace q195 := eq_true q195
             have p196 : 0 ≤ (x7_3 : Int) := of_decide_eq_true (by first | (with_reducible assumption) | assumption)
             have q196 : x7_3 < (l0.length : Int) := of_decide_eq_true (by first | (with_reducible assumption) | assumption)
             obtain ⟨ad196, e196, hx196_0⟩ := Kd.at_string HR0.out x7_3 p196 q196
             obtain rfl : ad195 = ad196 := (by injection e196)
             replace hx196_0 := (HB.out.cell (World.block_lt_of_cell? w _ hx196_0)).trans hx196_0
             replace p196 := eq_true p196
             replace q196 := eq_true q196
             go_wp2_with (first | (go_at_call 5; (with_reducible refine (spec_UTF8.calls k3 (rdOf ByteArray.empty l0 x7_3) false _ A15.out).mono ?_); rintro e w' ⟨rfl, ⟨nd, rfl⟩⟩))
             go_ret
             exact ⟨by first | rfl | (simp [errX_none, errX_some] <;> rfl) | (simp [*, errX_none, errX_some] <;> rfl), by repeat (first | (with_reducible first | exact HB.out | apply below_alloc | apply pw_below_drewN | apply below_drew1) | exact HB.out)⟩
          ·
           rw [if_neg c13] at H
           exact absurd H (by simp)
         ·
          rw [if_neg c12] at H
          have c12b0 : decide (x7_3 < (l0.length : Int)) = false := decide_eq_false c12
          clear c12
          replace H := Option.bind_eq_some_iff.mp H
          obtain ⟨⟨t198, t199⟩, A170, H⟩ := H
          replace H : ((impl_JqParsePath.f k3 t198).bind fun bt202 => (if bt202.2 = true then ((laws_sameStrings.f k3 bt202.1 t199).bind fun t206 => (some t206)) else (some false))) = some r := H
          have A17 := Aside0.mk A170
          clear A170
          replace H := Option.bind_eq_some_iff.mp H
          obtain ⟨⟨t202, t203⟩, A180, H⟩ := H
          replace H : (if t203 = true then ((laws_sameStrings.f k3 t202 t199).bind fun t206 => (some t206)) else (some false)) = some r := H
          have A18 := Aside0.mk A180
          clear A180
          by_cases c19 : t203 = true
          ·
           subst c19
           have H1 : ((laws_sameStrings.f k3 t202 t199).bind fun t206 => (some t206)) = some r := by rw [if_pos rfl] at H; exact H
           clear H
           have H := H1
           clear H1
           replace H := Option.bind_eq_some_iff.mp H
           obtain ⟨t206, A200, H⟩ := H
           replace H : (some t206) = some r := H
           have A20 := Aside0.mk A200
           clear A200
           obtain rfl := Option.some.inj H
           go_wp2_with (first | ((with_reducible refine gate_callee (f := 6) rfl ?_); refine goesL_ (some 57) rfl rfl Tryd.func6 (by kernel_rfl) rfl #[.slice A0 l0.length c0, .slice A1 l1.length c1, .bool a2] rfl (by (try simp only [List.map_toArray, List.map_cons, List.map_nil]); first | done | rfl | (simp only [List.length_drop, List.length_take]; rfl)) ?_; (with_reducible refine (laws_jqPathOf.calls k3 _ _ l0 _ _ l1 a2 t198 t199 _ ?side1 ?side2 ?side3 ?side4 A17.out).mono ?_); (case side1 => repeat (first | exact (Kd.C_below HR0.out HB.out) | (with_reducible refine Kd.C_alloc ?_ _) | (with_reducible refine Kd.C_drewN ?_ _) | (with_reducible refine Kd.C_drew ?_))); (case side2 => exact HC0.out); (case side3 => repeat (first | exact (Kd.C_below HR1.out HB.out) | (with_reducible refine Kd.C_alloc ?_ _) | (with_reducible refine Kd.C_drewN ?_ _) | (with_reducible refine Kd.C_drew ?_))); (case side4 => exact HC1.out); rintro e w21 ⟨v200, rfl, ho0, hb⟩; refine ⟨_, rfl, ?_⟩; have n0_ := Aside0.mk (Kd.R_lower ho0 (below_size (by repeat (first | (with_reducible first | exact HB.out | apply below_alloc | apply pw_below_drewN | apply below_drew1) | exact HB.out)))); have n1_ := Aside0.mk (below_step (by repeat (first | (with_reducible first | exact HB.out | apply below_alloc | apply pw_below_drewN | apply below_drew1) | exact HB.out)) hb); clear HB; have HO201 := n0_; have HB := n1_; clear n0_ n1_; (try clear hb); (try clear hb2); (try clear hk); (try clear hi); (try clear ho0)) | ((with_reducible refine gate_callee (f := 7) rfl ?_); refine goesL_ (some 62) rfl rfl Tryd.func7 (by kernel_rfl) rfl #[.string t198] rfl (by (try simp only [List.map_toArray, List.map_cons, List.map_nil]); first | done | rfl | (simp only [List.length_drop, List.length_take]; rfl)) ?_; (with_reducible refine (impl_JqParsePath.calls k3 t198 t202 true _ A18.out (HG.out.below (by repeat (first | (with_reducible first | exact HB.out | apply below_alloc | apply pw_below_drewN | apply below_drew1) | exact HB.out)))).mono ?_); rintro e w22 ⟨v204, rfl, ho0, hb⟩; refine ⟨_, rfl, ?_⟩; have n0_ := Aside0.mk (Kd.R_elder' (by (with_reducible repeat (first | apply Kd.R_alloc | apply Kd.R_drewN | apply Kd.R_drew)); exact HO201.out) (Kd.R_base ho0) hb); have n1_ := Aside0.mk (Kd.R_lower (Kd.R_new' ho0 (Kd.R_lt (by (with_reducible repeat (first | apply Kd.R_alloc | apply Kd.R_drewN | apply Kd.R_drew)); exact HO201.out))) (below_size (by repeat (first | (with_reducible first | exact HB.out | apply below_alloc | apply pw_below_drewN | apply below_drew1) | exact HB.out)))); have n2_ := Aside0.mk (below_step (by repeat (first | (with_reducible first | exact HB.out | apply below_alloc | apply pw_below_drewN | apply below_drew1) | exact HB.out)) hb); clear HO201; clear HB; have HO201 := n0_; have HO205 := n1_; have HB := n2_; clear n0_ n1_ n2_; (try clear hb); (try clear hb2); (try clear hk); (try clear hi); (try clear ho0); obtain ⟨Ao23, co23, eo23⟩ := Kd.R_slice HO205.out; subst eo23; obtain ⟨Ao24, co24, eo24⟩ := Kd.R_slice HO201.out; subst eo24) | (go_at_call 8; (with_reducible refine (laws_sameStrings.calls k3 _ _ t202 _ _ t199 t206 _ ?side1 ?side2 ?side3 ?side4 A20.out).mono ?_); (case side1 => repeat (first | exact (Kd.R_reads' HO205.out).2.2 | (with_reducible refine Kd.C_alloc ?_ _) | (with_reducible refine Kd.C_drewN ?_ _) | (with_reducible refine Kd.C_drew ?_))); (case side2 => exact (Kd.R_reads' HO205.out).2.1); (case side3 => repeat (first | exact (Kd.R_reads' HO201.out).2.2 | (with_reducible refine Kd.C_alloc ?_ _) | (with_reducible refine Kd.C_drewN ?_ _) | (with_reducible refine Kd.C_drew ?_))); (case side4 => exact (Kd.R_reads' HO201.out).2.1); rintro e w' ⟨rfl, ⟨nd, rfl⟩⟩))
           go_ret
           exact ⟨by first | rfl | (simp [errX_none, errX_some] <;> rfl) | (simp [*, errX_none, errX_some] <;> rfl), by repeat (first | (with_reducible first | exact HB.out | apply below_alloc | apply pw_below_drewN | apply below_drew1) | exact HB.out)⟩
          ·
           replace c19 := Bool.eq_false_iff.mpr c19
           subst c19
           have H1 : (some false) = some r := by rw [if_neg (show ¬ (false = true) by decide)] at H; exact H
           clear H
           have H := H1
           clear H1
           obtain rfl := Option.some.inj H
           go_wp2_with (first | ((with_reducible refine gate_callee (f := 6) rfl ?_); refine goesL_ (some 57) rfl rfl Tryd.func6 (by kernel_rfl) rfl #[.slice A0 l0.length c0, .slice A1 l1.length c1, .bool a2] rfl (by (try simp only [List.map_toArray, List.map_cons, List.map_nil]); first | done | rfl | (simp only [List.length_drop, List.length_take]; rfl)) ?_; (with_reducible refine (laws_jqPathOf.calls k3 _ _ l0 _ _ l1 a2 t198 t199 _ ?side1 ?side2 ?side3 ?side4 A17.out).mono ?_); (case side1 => repeat (first | exact (Kd.C_below HR0.out HB.out) | (with_reducible refine Kd.C_alloc ?_ _) | (with_reducible refine Kd.C_drewN ?_ _) | (with_reducible refine Kd.C_drew ?_))); (case side2 => exact HC0.out); (case side3 => repeat (first | exact (Kd.C_below HR1.out HB.out) | (with_reducible refine Kd.C_alloc ?_ _) | (with_reducible refine Kd.C_drewN ?_ _) | (with_reducible refine Kd.C_drew ?_))); (case side4 => exact HC1.out); rintro e w25 ⟨v200, rfl, ho0, hb⟩; refine ⟨_, rfl, ?_⟩; have n0_ := Aside0.mk (Kd.R_lower ho0 (below_size (by repeat (first | (with_reducible first | exact HB.out | apply below_alloc | apply pw_below_drewN | apply below_drew1) | exact HB.out)))); have n1_ := Aside0.mk (below_step (by repeat (first | (with_reducible first | exact HB.out | apply below_alloc | apply pw_below_drewN | apply below_drew1) | exact HB.out)) hb); clear HB; have HO201 := n0_; have HB := n1_; clear n0_ n1_; (try clear hb); (try clear hb2); (try clear hk); (try clear hi); (try clear ho0)) | ((with_reducible refine gate_callee (f := 7) rfl ?_); refine goesL_ (some 62) rfl rfl Tryd.func7 (by kernel_rfl) rfl #[.string t198] rfl (by (try simp only [List.map_toArray, List.map_cons, List.map_nil]); first | done | rfl | (simp only [List.length_drop, List.length_take]; rfl)) ?_; (with_reducible refine (impl_JqParsePath.calls k3 t198 t202 false _ A18.out (HG.out.below (by repeat (first | (with_reducible first | exact HB.out | apply below_alloc | apply pw_below_drewN | apply below_drew1) | exact HB.out)))).mono ?_); rintro e w26 ⟨v204, rfl, ho0, hb⟩; refine ⟨_, rfl, ?_⟩; have n0_ := Aside0.mk (Kd.R_elder' (by (with_reducible repeat (first | apply Kd.R_alloc | apply Kd.R_drewN | apply Kd.R_drew)); exact HO201.out) (Kd.R_base ho0) hb); have n1_ := Aside0.mk (Kd.R_lower (Kd.R_new' ho0 (Kd.R_lt (by (with_reducible repeat (first | apply Kd.R_alloc | apply Kd.R_drewN | apply Kd.R_drew)); exact HO201.out))) (below_size (by repeat (first | (with_reducible first | exact HB.out | apply below_alloc | apply pw_below_drewN | apply below_drew1) | exact HB.out)))); have n2_ := Aside0.mk (below_step (by repeat (first | (with_reducible first | exact HB.out | apply below_alloc | apply pw_below_drewN | apply below_drew1) | exact HB.out)) hb); clear HO201; clear HB; have HO201 := n0_; have HO205 := n1_; have HB := n2_; clear n0_ n1_ n2_; (try clear hb); (try clear hb2); (try clear hk); (try clear hi); (try clear ho0)))
           go_ret
           exact ⟨by first | rfl | (simp [errX_none, errX_some] <;> rfl) | (simp [*, errX_none, errX_some] <;> rfl), by repeat (first | (with_reducible first | exact HB.out | apply below_alloc | apply pw_below_drewN | apply below_drew1) | exact HB.out)⟩

/-- THE ONE PURE STATEMENT of laws_FnJqPathOf: yours. -/
noncomputable def laws_FnJqPathOf.Pure : Prop := ∀ (l0 : List ByteArray) (l1 : List Int) (a2 : Bool), l0.length ≤ maxLen → (∀ x ∈ l0, x.size ≤ maxLen) → l1.length ≤ maxLen → l1.length * 1 ≤ 140737488351232 → (∀ x ∈ l1, (Lit.int .u8 x).wf = true) → ∃ k, laws_FnJqPathOf.f k l0 l1 a2 = some true
theorem laws_FnJqPathOf.walk (P : laws_FnJqPathOf.Pure) (a0 : Option Addr) (len0 cap0 : Nat) (z0 : List ByteArray) (a1 : Option Addr) (len1 cap1 : Nat) (z1 : List Int) (a2 : Bool) (w : World) (w0 : (a0 = none ∧ len0 = 0 ∧ cap0 = 0 ∧ z0 = []) ∨ ∃ x, a0 = some x ∧ len0 ≤ cap0 ∧ cap0 ≤ maxLen ∧ z0.length = cap0 ∧ (∀ i, i < z0.length → w.cell? (x.add i) = some (.string (z0.getD i ByteArray.empty))) ∧ ∀ s ∈ z0, s.size ≤ maxLen) (w1 : (a1 = none ∧ len1 = 0 ∧ cap1 = 0 ∧ z1 = []) ∨ ∃ x, a1 = some x ∧ len1 ≤ cap1 ∧ cap1 ≤ maxLen ∧ z1.length = cap1 ∧ (∀ i, i < z1.length → w.cell? (x.add i) = some (.int .u8 (z1.getD i 0))) ∧ ∀ n ∈ z1, (Lit.int .u8 n).wf = true) (y1 : len1 * 1 ≤ 140737488351232) (hG : Glob w) :
    Calls Tryd.prog 3 #[.slice a0 len0 cap0, .slice a1 len1 cap1, .bool a2] w fun e w' => e = .returned (.bool true) ∧ Below w.heap.size w w' := by
  obtain ⟨l0, rfl, hr0, hm0, hw0, hc0⟩ := strs_row w0
  obtain ⟨l1, rfl, hr1, hm1, hw1, hc1⟩ := ReadsInt.ofRowC w1
  obtain ⟨k, h⟩ := P l0 l1 a2 hm0 hw0 hm1 y1 hw1
  refine (laws_FnJqPathOf.calls k _ _ l0 _ _ l1 a2 true w hr0 hc0 (Kd.C_of_reads (d := (0 : Int)) (h1 := fun _ => rfl) hr1) hc1 h hG).mono ?_
  rintro e w' ⟨rfl, hd⟩
  exact ⟨rfl, hd⟩

end Go.Proofs.YtobmnfbplmefoaaDoor.PFnJqPathOf
