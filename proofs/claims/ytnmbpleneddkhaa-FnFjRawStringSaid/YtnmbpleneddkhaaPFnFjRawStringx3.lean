-- Written by a program of this session (wip/prx) out of the print of the loaded functions.
import Derived.Test.YtnmbpleneddkhaaPFnFjRawStringx0
import Derived.Test.YtnmbpleneddkhaaPFnFjRawStringx1
import Derived.Test.YtnmbpleneddkhaaPFnFjRawStringx2
namespace Go.Proofs.Ytnmbpleneddkhaa.PFnFjRawString
open Go.RowKit Go.Proofs.YtnmbpleneddkhaaW.PrintWords Go.Proofs.YtnmbpleneddkhaaW.PrintLast Go.Proofs.YtnmbpleneddkhaaW.PrintMore
attribute [local go_sem] max2_int min2_int max_two min_two max_three min_three max_four min_four   -- for this text's walks alone
set_option linter.unusedVariables false
set_option linter.unusedSimpArgs false

/-! ### impl_FjRawString: function 14 -/
def impl_FjRawString.f (k : Nat) (a0 : ByteArray) : Option (ByteArray × ByteArray × Bool) := (fastjson_DoorRawString.f k a0).bind fun bt108 => (if bt108.2.2.isNone = true then (some (bt108.1, bt108.2.1, true)) else (some ((⟨#[]⟩ : ByteArray), (⟨#[]⟩ : ByteArray), false)))
theorem impl_FjRawString.mono : ∀ a0 k, LeO (impl_FjRawString.f k a0) (impl_FjRawString.f (k + 1) a0) := by
  intro a0 k
  unfold impl_FjRawString.f
  repeat' first
      | (with_reducible exact fastjson_DoorRawString.mono _ _)
      | (with_reducible exact LeO.refl _)
      | (with_reducible exact LeO.none _)
      | (with_reducible refine LeO.ite ?_ ?_)
      | (with_reducible refine LeO.bind ?_ (fun _ => ?_))
      | exact fastjson_DoorRawString.mono _ _
      | exact LeO.none _
      | refine LeO.ite ?_ ?_
      | refine LeO.bind ?_ (fun _ => ?_)
set_option maxHeartbeats 8000000 in
set_option maxRecDepth 100000 in
theorem impl_FjRawString.calls (k : Nat) (a0 : ByteArray) (r1 : ByteArray) (r2 : ByteArray) (r3 : Bool) (w : World) (h : impl_FjRawString.f k a0 = some (r1, r2, r3)) :
    Calls Try.prog 14 #[.string a0] w fun e w' => e = .returned (.tuple #[.string r1, .string r2, .bool r3]) ∧ Below w.heap.size w w' := by
 have hu45 := Try.underlying45
 have HB := Aside0.mk (Below.refl w.heap.size w)
 have H : ((fastjson_DoorRawString.f k a0).bind fun bt108 => (if bt108.2.2.isNone = true then (some (bt108.1, bt108.2.1, true)) else (some ((⟨#[]⟩ : ByteArray), (⟨#[]⟩ : ByteArray), false)))) = some (r1, r2, r3) := h
 clear h
 replace H := Option.bind_eq_some_iff.mp H
 obtain ⟨⟨t108, t109, t110⟩, A20, H⟩ := H
 replace H : (if t110.isNone = true then (some (t108, t109, true)) else (some ((⟨#[]⟩ : ByteArray), (⟨#[]⟩ : ByteArray), false))) = some (r1, r2, r3) := H
 have A2 := Aside0.mk A20
 clear A20
 rcases t110 with _ | q111
 ·
  have H1 : (some (t108, t109, true)) = some (r1, r2, r3) := by rw [if_pos (show (none : Option Int).isNone = true by rfl)] at H; exact H
  clear H
  have H := H1
  clear H1
  try simp only [errX_none, errX_some]
  simp only [Option.some.injEq, Prod.mk.injEq] at H
  obtain ⟨rfl, rfl, rfl⟩ := H
  go_enter Try.func14, Try.ntmps14
  go_wp2_with (first | ((with_reducible refine gate_callee (f := 27) rfl ?_); refine goesL_ (some 10) rfl rfl Try.func27 (by kernel_rfl) rfl #[.string a0] rfl (by (try simp only [List.map_toArray, List.map_cons, List.map_nil]); first | done | rfl | (simp only [List.length_drop, List.length_take]; rfl)) ?_; (with_reducible refine (fastjson_DoorRawString.calls k a0 t108 t109 none _ A2.out).mono ?_); rintro e w3 ⟨evz_, rfl, hb⟩; refine ⟨_, rfl, ?_⟩; have n0_ := Aside0.mk (below_step (by repeat (first | (with_reducible first | exact HB.out | apply below_alloc | apply pw_below_drewN | apply below_drew1) | exact HB.out)) hb); clear HB; have HB := n0_; clear n0_; (try clear hb); (try clear hb2); (try clear hk); (try clear hi); (try simp only [errX_none, errX_some])))
  go_ret3
  exact ⟨by first | rfl | (simp [errX_none, errX_some] <;> rfl) | (simp [*, errX_none, errX_some] <;> rfl), by repeat (first | (with_reducible first | exact HB.out | apply below_alloc | apply pw_below_drewN | apply below_drew1) | exact HB.out)⟩
 ·
  have H1 : (some ((⟨#[]⟩ : ByteArray), (⟨#[]⟩ : ByteArray), false)) = some (r1, r2, r3) := by rw [if_neg (show ¬ (some q111).isNone = true by simp)] at H; exact H
  clear H
  have H := H1
  clear H1
  try simp only [errX_none, errX_some]
  simp only [Option.some.injEq, Prod.mk.injEq] at H
  obtain ⟨rfl, rfl, rfl⟩ := H
  go_enter Try.func14, Try.ntmps14
  go_wp2_with (first | ((with_reducible refine gate_callee (f := 27) rfl ?_); refine goesL_ (some 10) rfl rfl Try.func27 (by kernel_rfl) rfl #[.string a0] rfl (by (try simp only [List.map_toArray, List.map_cons, List.map_nil]); first | done | rfl | (simp only [List.length_drop, List.length_take]; rfl)) ?_; (with_reducible refine (fastjson_DoorRawString.calls k a0 t108 t109 (some q111) _ A2.out).mono ?_); rintro e w4 ⟨evt110, rfl, hb⟩; refine ⟨_, rfl, ?_⟩; have n0_ := Aside0.mk (below_step (by repeat (first | (with_reducible first | exact HB.out | apply below_alloc | apply pw_below_drewN | apply below_drew1) | exact HB.out)) hb); clear HB; have HB := n0_; clear n0_; (try clear hb); (try clear hb2); (try clear hk); (try clear hi); (try simp only [errX_none, errX_some])))
  go_ret3
  exact ⟨by first | rfl | (simp [errX_none, errX_some] <;> rfl) | (simp [*, errX_none, errX_some] <;> rfl), by repeat (first | (with_reducible first | exact HB.out | apply below_alloc | apply pw_below_drewN | apply below_drew1) | exact HB.out)⟩

/-! ### laws_FnFjRawString: function 4 -/
def laws_FnFjRawString.f (k : Nat) (a0 : ByteArray) : Option (Bool) := if (a0.size : Int) > 2147483647 then (some true) else (if (a0.size : Int) > 4000 then (some true) else ((spec_Closing.f k a0).bind fun t112 => ((impl_FjRawString.f k a0).bind fun bt113 => ((impl_FjRawString.f k (⟨#[34]⟩ : ByteArray)).bind fun bt116 => (if bt116.2.2 = true then (if (bt113.2.2 == (decide (t112 ≥ 0))) = true then (if bt113.2.2 = true then (if 0 ≤ t112 then (if t112 ≤ (a0.size : Int) then (if bt113.1.toList = (a0.extract 0 (t112 : Int).toNat).toList then (if 0 ≤ (wrap64 (t112 + 1)) then (if (wrap64 (t112 + 1)) ≤ (a0.size : Int) then (some (bt113.2.1.toList == (a0.extract ((wrap64 (t112 + 1)) : Int).toNat a0.size).toList)) else (none)) else (none)) else (some false)) else (none)) else (none)) else (some true)) else (some false)) else (some false))))))
theorem laws_FnFjRawString.mono : ∀ a0 k, LeO (laws_FnFjRawString.f k a0) (laws_FnFjRawString.f (k + 1) a0) := by
  intro a0 k
  unfold laws_FnFjRawString.f
  repeat' first
      | (with_reducible exact impl_FjRawString.mono _ _)
      | (with_reducible exact spec_Closing.mono _ _)
      | (with_reducible exact LeO.refl _)
      | (with_reducible exact LeO.none _)
      | (with_reducible refine LeO.ite ?_ ?_)
      | (with_reducible refine LeO.bind ?_ (fun _ => ?_))
      | exact impl_FjRawString.mono _ _
      | exact spec_Closing.mono _ _
      | exact LeO.none _
      | refine LeO.ite ?_ ?_
      | refine LeO.bind ?_ (fun _ => ?_)
set_option maxHeartbeats 8000000 in
set_option maxRecDepth 100000 in
theorem laws_FnFjRawString.calls (k : Nat) (a0 : ByteArray) (r : Bool) (w : World) (h : laws_FnFjRawString.f k a0 = some r) :
    Calls Try.prog 4 #[.string a0] w fun e w' => e = .returned (.bool r) ∧ Below w.heap.size w w' := by
 have HB := Aside0.mk (Below.refl w.heap.size w)
 have H : (if (a0.size : Int) > 2147483647 then (some true) else (if (a0.size : Int) > 4000 then (some true) else ((spec_Closing.f k a0).bind fun t112 => ((impl_FjRawString.f k a0).bind fun bt113 => ((impl_FjRawString.f k (⟨#[34]⟩ : ByteArray)).bind fun bt116 => (if bt116.2.2 = true then (if (bt113.2.2 == (decide (t112 ≥ 0))) = true then (if bt113.2.2 = true then (if 0 ≤ t112 then (if t112 ≤ (a0.size : Int) then (if bt113.1.toList = (a0.extract 0 (t112 : Int).toNat).toList then (if 0 ≤ (wrap64 (t112 + 1)) then (if (wrap64 (t112 + 1)) ≤ (a0.size : Int) then (some (bt113.2.1.toList == (a0.extract ((wrap64 (t112 + 1)) : Int).toNat a0.size).toList)) else (none)) else (none)) else (some false)) else (none)) else (none)) else (some true)) else (some false)) else (some false))))))) = some r := h
 clear h
 by_cases c2 : (a0.size : Int) > 2147483647
 ·
  rw [if_pos c2] at H
  have c2b0 : decide (2147483647 < (a0.size : Int)) = true := decide_eq_true c2
  have c2b1 : decide (2147483647 < a0.size) = true := decide_eq_true (by omega)
  clear c2
  obtain rfl := Option.some.inj H
  go_enter Try.func4, Try.ntmps4
  go_wp2
  go_ret
  exact ⟨by first | rfl | (simp [errX_none, errX_some] <;> rfl) | (simp [*, errX_none, errX_some] <;> rfl), by repeat (first | (with_reducible first | exact HB.out | apply below_alloc | apply pw_below_drewN | apply below_drew1) | exact HB.out)⟩
 ·
  rw [if_neg c2] at H
  have c2b0 : decide (2147483647 < (a0.size : Int)) = false := decide_eq_false c2
  have c2b1 : decide (2147483647 < a0.size) = false := decide_eq_false (by omega)
  clear c2
  by_cases c3 : (a0.size : Int) > 4000
  ·
   rw [if_pos c3] at H
   have c3b0 : decide (4000 < (a0.size : Int)) = true := decide_eq_true c3
   have c3b1 : decide (4000 < a0.size) = true := decide_eq_true (by omega)
   clear c3
   obtain rfl := Option.some.inj H
   go_enter Try.func4, Try.ntmps4
   go_wp2
   go_ret
   exact ⟨by first | rfl | (simp [errX_none, errX_some] <;> rfl) | (simp [*, errX_none, errX_some] <;> rfl), by repeat (first | (with_reducible first | exact HB.out | apply below_alloc | apply pw_below_drewN | apply below_drew1) | exact HB.out)⟩
  ·
   rw [if_neg c3] at H
   have c3b0 : decide (4000 < (a0.size : Int)) = false := decide_eq_false c3
   have c3b1 : decide (4000 < a0.size) = false := decide_eq_false (by omega)
   clear c3
   replace H := Option.bind_eq_some_iff.mp H
   obtain ⟨t112, A40, H⟩ := H
   replace H : ((impl_FjRawString.f k a0).bind fun bt113 => ((impl_FjRawString.f k (⟨#[34]⟩ : ByteArray)).bind fun bt116 => (if bt116.2.2 = true then (if (bt113.2.2 == (decide (t112 ≥ 0))) = true then (if bt113.2.2 = true then (if 0 ≤ t112 then (if t112 ≤ (a0.size : Int) then (if bt113.1.toList = (a0.extract 0 (t112 : Int).toNat).toList then (if 0 ≤ (wrap64 (t112 + 1)) then (if (wrap64 (t112 + 1)) ≤ (a0.size : Int) then (some (bt113.2.1.toList == (a0.extract ((wrap64 (t112 + 1)) : Int).toNat a0.size).toList)) else (none)) else (none)) else (some false)) else (none)) else (none)) else (some true)) else (some false)) else (some false)))) = some r := H
   have A4 := Aside0.mk A40
   clear A40
   replace H := Option.bind_eq_some_iff.mp H
   obtain ⟨⟨t113, t114, t115⟩, A50, H⟩ := H
   replace H : ((impl_FjRawString.f k (⟨#[34]⟩ : ByteArray)).bind fun bt116 => (if bt116.2.2 = true then (if (t115 == (decide (t112 ≥ 0))) = true then (if t115 = true then (if 0 ≤ t112 then (if t112 ≤ (a0.size : Int) then (if t113.toList = (a0.extract 0 (t112 : Int).toNat).toList then (if 0 ≤ (wrap64 (t112 + 1)) then (if (wrap64 (t112 + 1)) ≤ (a0.size : Int) then (some (t114.toList == (a0.extract ((wrap64 (t112 + 1)) : Int).toNat a0.size).toList)) else (none)) else (none)) else (some false)) else (none)) else (none)) else (some true)) else (some false)) else (some false))) = some r := H
   have A5 := Aside0.mk A50
   clear A50
   replace H := Option.bind_eq_some_iff.mp H
   obtain ⟨⟨t116, t117, t118⟩, A60, H⟩ := H
   replace H : (if t118 = true then (if (t115 == (decide (t112 ≥ 0))) = true then (if t115 = true then (if 0 ≤ t112 then (if t112 ≤ (a0.size : Int) then (if t113.toList = (a0.extract 0 (t112 : Int).toNat).toList then (if 0 ≤ (wrap64 (t112 + 1)) then (if (wrap64 (t112 + 1)) ≤ (a0.size : Int) then (some (t114.toList == (a0.extract ((wrap64 (t112 + 1)) : Int).toNat a0.size).toList)) else (none)) else (none)) else (some false)) else (none)) else (none)) else (some true)) else (some false)) else (some false)) = some r := H
   have A6 := Aside0.mk A60
   clear A60
   by_cases c7 : t118 = true
   ·
    subst c7
    have H1 : (if (t115 == (decide (t112 ≥ 0))) = true then (if t115 = true then (if 0 ≤ t112 then (if t112 ≤ (a0.size : Int) then (if t113.toList = (a0.extract 0 (t112 : Int).toNat).toList then (if 0 ≤ (wrap64 (t112 + 1)) then (if (wrap64 (t112 + 1)) ≤ (a0.size : Int) then (some (t114.toList == (a0.extract ((wrap64 (t112 + 1)) : Int).toNat a0.size).toList)) else (none)) else (none)) else (some false)) else (none)) else (none)) else (some true)) else (some false)) = some r := by rw [if_pos rfl] at H; exact H
    clear H
    have H := H1
    clear H1
    by_cases c8 : (t115 == (decide (t112 ≥ 0))) = true
    ·
     rw [if_pos c8] at H
     have c8b0 : (t115 == (decide (t112 ≥ 0))) = true := c8
     (try (have c8b1 : decide (t115 = (decide (t112 ≥ 0))) = true := by simpa using c8))
     (try (have c8b2 : (t115 == (decide (t112 ≥ 0))) = true := by simpa using c8))
     clear c8
     by_cases c9 : t115 = true
     ·
      subst c9
      have H1 : (if 0 ≤ t112 then (if t112 ≤ (a0.size : Int) then (if t113.toList = (a0.extract 0 (t112 : Int).toNat).toList then (if 0 ≤ (wrap64 (t112 + 1)) then (if (wrap64 (t112 + 1)) ≤ (a0.size : Int) then (some (t114.toList == (a0.extract ((wrap64 (t112 + 1)) : Int).toNat a0.size).toList)) else (none)) else (none)) else (some false)) else (none)) else (none)) = some r := by rw [if_pos rfl] at H; exact H
      clear H
      have H := H1
      clear H1
      by_cases c10 : 0 ≤ t112
      ·
       rw [if_pos c10] at H
       have c10b0 := eq_true c10
       have c10b1 : decide (0 ≤ t112) = true := decide_eq_true c10
       clear c10
       by_cases c11 : t112 ≤ (a0.size : Int)
       ·
        rw [if_pos c11] at H
        have c11b0 := eq_true c11
        have c11b1 : decide (t112 ≤ (a0.size : Int)) = true := decide_eq_true c11
        clear c11
        by_cases c12 : t113.toList = (a0.extract 0 (t112 : Int).toNat).toList
        ·
         rw [if_pos c12] at H
         have c12b0 : (t113.toList == (a0.extract 0 (t112 : Int).toNat).toList) = true := beq_iff_eq.mpr c12
         have c12b1 : (t113.toList != (a0.extract 0 (t112 : Int).toNat).toList) = false := bne_eq_false_iff_eq.mpr c12
         clear c12
         obtain ⟨ji13, hji13⟩ : ∃ j_ : Int, (wrap64 (t112 + 1)) = j_ := ⟨_, rfl⟩
         replace H : (if 0 ≤ (ji13) then (if (ji13) ≤ (a0.size : Int) then (some (t114.toList == (a0.extract ((ji13) : Int).toNat a0.size).toList)) else (none)) else (none)) = some r := by first | (rw [hji13] at H; exact H) | (simp only [hji13] at H ⊢; exact H)
         (try rw [hji13] at A4)
         (try rw [hji13] at A5)
         (try rw [hji13] at A6)
         have hji13w : (IntKind.i64.wrap (t112 + 1)) = ji13 := (i64_w _).trans hji13
         by_cases c14 : 0 ≤ (ji13)
         ·
          rw [if_pos c14] at H
          have c14b0 := eq_true c14
          have c14b1 : decide (0 ≤ (ji13)) = true := decide_eq_true c14
          clear c14
          by_cases c15 : (ji13) ≤ (a0.size : Int)
          ·
           rw [if_pos c15] at H
           have c15b0 := eq_true c15
           have c15b1 : decide ((ji13) ≤ (a0.size : Int)) = true := decide_eq_true c15
           clear c15
           obtain rfl := Option.some.inj H
           go_enter Try.func4, Try.ntmps4
           go_wp2_with (first | ((with_reducible refine gate_callee (f := 13) rfl ?_); refine goesL_ (some 17) rfl rfl Try.func13 (by kernel_rfl) rfl #[.string a0] rfl (by (try simp only [List.map_toArray, List.map_cons, List.map_nil]); first | done | rfl | (simp only [List.length_drop, List.length_take]; rfl)) ?_; (with_reducible refine (spec_Closing.calls k a0 t112 _ A4.out).mono ?_); rintro e w' ⟨rfl, ⟨nd, rfl⟩⟩; refine ⟨_, rfl, ?_⟩) | ((with_reducible refine gate_callee (f := 14) rfl ?_); refine goesL_ (some 20) rfl rfl Try.func14 (by kernel_rfl) rfl #[.string a0] rfl (by (try simp only [List.map_toArray, List.map_cons, List.map_nil]); first | done | rfl | (simp only [List.length_drop, List.length_take]; rfl)) ?_; (with_reducible refine (impl_FjRawString.calls k a0 t113 t114 true _ A5.out).mono ?_); rintro e w16 ⟨rfl, hb⟩; refine ⟨_, rfl, ?_⟩; have n0_ := Aside0.mk (below_step (by repeat (first | (with_reducible first | exact HB.out | apply below_alloc | apply pw_below_drewN | apply below_drew1) | exact HB.out)) hb); clear HB; have HB := n0_; clear n0_; (try clear hb); (try clear hb2); (try clear hk); (try clear hi)) | ((with_reducible refine gate_callee (f := 14) rfl ?_); refine goesL_ (some 25) rfl rfl Try.func14 (by kernel_rfl) rfl #[.string (⟨#[34]⟩ : ByteArray)] rfl (by (try simp only [List.map_toArray, List.map_cons, List.map_nil]); first | done | rfl | (simp only [List.length_drop, List.length_take]; rfl)) ?_; (with_reducible refine (impl_FjRawString.calls k (⟨#[34]⟩ : ByteArray) t116 t117 true _ A6.out).mono ?_); rintro e w17 ⟨rfl, hb⟩; refine ⟨_, rfl, ?_⟩; have n0_ := Aside0.mk (below_step (by repeat (first | (with_reducible first | exact HB.out | apply below_alloc | apply pw_below_drewN | apply below_drew1) | exact HB.out)) hb); clear HB; have HB := n0_; clear n0_; (try clear hb); (try clear hb2); (try clear hk); (try clear hi)))
           go_ret
           exact ⟨by first | rfl | (simp [errX_none, errX_some] <;> rfl) | (simp only [← hji13]; first | rfl | (simp [errX_none, errX_some] <;> rfl)) | (simp [*, errX_none, errX_some] <;> rfl), by repeat (first | (with_reducible first | exact HB.out | apply below_alloc | apply pw_below_drewN | apply below_drew1) | exact HB.out)⟩
          ·
           rw [if_neg c15] at H
           exact absurd H (by simp)
         ·
          rw [if_neg c14] at H
          exact absurd H (by simp)
        ·
         rw [if_neg c12] at H
         have c12b0 : (t113.toList == (a0.extract 0 (t112 : Int).toNat).toList) = false := beq_eq_false_iff_ne.mpr c12
         have c12b1 : (t113.toList != (a0.extract 0 (t112 : Int).toNat).toList) = true := bne_iff_ne.mpr c12
         obtain rfl := Option.some.inj H
         go_enter Try.func4, Try.ntmps4
         go_wp2_with (first | ((with_reducible refine gate_callee (f := 13) rfl ?_); refine goesL_ (some 17) rfl rfl Try.func13 (by kernel_rfl) rfl #[.string a0] rfl (by (try simp only [List.map_toArray, List.map_cons, List.map_nil]); first | done | rfl | (simp only [List.length_drop, List.length_take]; rfl)) ?_; (with_reducible refine (spec_Closing.calls k a0 t112 _ A4.out).mono ?_); rintro e w' ⟨rfl, ⟨nd, rfl⟩⟩; refine ⟨_, rfl, ?_⟩) | ((with_reducible refine gate_callee (f := 14) rfl ?_); refine goesL_ (some 20) rfl rfl Try.func14 (by kernel_rfl) rfl #[.string a0] rfl (by (try simp only [List.map_toArray, List.map_cons, List.map_nil]); first | done | rfl | (simp only [List.length_drop, List.length_take]; rfl)) ?_; (with_reducible refine (impl_FjRawString.calls k a0 t113 t114 true _ A5.out).mono ?_); rintro e w18 ⟨rfl, hb⟩; refine ⟨_, rfl, ?_⟩; have n0_ := Aside0.mk (below_step (by repeat (first | (with_reducible first | exact HB.out | apply below_alloc | apply pw_below_drewN | apply below_drew1) | exact HB.out)) hb); clear HB; have HB := n0_; clear n0_; (try clear hb); (try clear hb2); (try clear hk); (try clear hi)) | ((with_reducible refine gate_callee (f := 14) rfl ?_); refine goesL_ (some 25) rfl rfl Try.func14 (by kernel_rfl) rfl #[.string (⟨#[34]⟩ : ByteArray)] rfl (by (try simp only [List.map_toArray, List.map_cons, List.map_nil]); first | done | rfl | (simp only [List.length_drop, List.length_take]; rfl)) ?_; (with_reducible refine (impl_FjRawString.calls k (⟨#[34]⟩ : ByteArray) t116 t117 true _ A6.out).mono ?_); rintro e w19 ⟨rfl, hb⟩; refine ⟨_, rfl, ?_⟩; have n0_ := Aside0.mk (below_step (by repeat (first | (with_reducible first | exact HB.out | apply below_alloc | apply pw_below_drewN | apply below_drew1) | exact HB.out)) hb); clear HB; have HB := n0_; clear n0_; (try clear hb); (try clear hb2); (try clear hk); (try clear hi)))
         go_ret
         exact ⟨by first | rfl | (simp [errX_none, errX_some] <;> rfl) | (simp [*, errX_none, errX_some] <;> rfl), by repeat (first | (with_reducible first | exact HB.out | apply below_alloc | apply pw_below_drewN | apply below_drew1) | exact HB.out)⟩
       ·
        rw [if_neg c11] at H
        exact absurd H (by simp)
      ·
       rw [if_neg c10] at H
       exact absurd H (by simp)
     ·
      replace c9 := Bool.eq_false_iff.mpr c9
      subst c9
      have H1 : (some true) = some r := by rw [if_neg (show ¬ (false = true) by decide)] at H; exact H
      clear H
      have H := H1
      clear H1
      obtain rfl := Option.some.inj H
      go_enter Try.func4, Try.ntmps4
      go_wp2_with (first | ((with_reducible refine gate_callee (f := 13) rfl ?_); refine goesL_ (some 17) rfl rfl Try.func13 (by kernel_rfl) rfl #[.string a0] rfl (by (try simp only [List.map_toArray, List.map_cons, List.map_nil]); first | done | rfl | (simp only [List.length_drop, List.length_take]; rfl)) ?_; (with_reducible refine (spec_Closing.calls k a0 t112 _ A4.out).mono ?_); rintro e w' ⟨rfl, ⟨nd, rfl⟩⟩; refine ⟨_, rfl, ?_⟩) | ((with_reducible refine gate_callee (f := 14) rfl ?_); refine goesL_ (some 20) rfl rfl Try.func14 (by kernel_rfl) rfl #[.string a0] rfl (by (try simp only [List.map_toArray, List.map_cons, List.map_nil]); first | done | rfl | (simp only [List.length_drop, List.length_take]; rfl)) ?_; (with_reducible refine (impl_FjRawString.calls k a0 t113 t114 false _ A5.out).mono ?_); rintro e w20 ⟨rfl, hb⟩; refine ⟨_, rfl, ?_⟩; have n0_ := Aside0.mk (below_step (by repeat (first | (with_reducible first | exact HB.out | apply below_alloc | apply pw_below_drewN | apply below_drew1) | exact HB.out)) hb); clear HB; have HB := n0_; clear n0_; (try clear hb); (try clear hb2); (try clear hk); (try clear hi)) | ((with_reducible refine gate_callee (f := 14) rfl ?_); refine goesL_ (some 25) rfl rfl Try.func14 (by kernel_rfl) rfl #[.string (⟨#[34]⟩ : ByteArray)] rfl (by (try simp only [List.map_toArray, List.map_cons, List.map_nil]); first | done | rfl | (simp only [List.length_drop, List.length_take]; rfl)) ?_; (with_reducible refine (impl_FjRawString.calls k (⟨#[34]⟩ : ByteArray) t116 t117 true _ A6.out).mono ?_); rintro e w21 ⟨rfl, hb⟩; refine ⟨_, rfl, ?_⟩; have n0_ := Aside0.mk (below_step (by repeat (first | (with_reducible first | exact HB.out | apply below_alloc | apply pw_below_drewN | apply below_drew1) | exact HB.out)) hb); clear HB; have HB := n0_; clear n0_; (try clear hb); (try clear hb2); (try clear hk); (try clear hi)))
      go_ret
      exact ⟨by first | rfl | (simp [errX_none, errX_some] <;> rfl) | (simp [*, errX_none, errX_some] <;> rfl), by repeat (first | (with_reducible first | exact HB.out | apply below_alloc | apply pw_below_drewN | apply below_drew1) | exact HB.out)⟩
    ·
     rw [if_neg c8] at H
     have c8b0 : (t115 == (decide (t112 ≥ 0))) = false := by simpa using c8
     (try (have c8b1 : decide (t115 = (decide (t112 ≥ 0))) = false := by simpa using c8))
     (try (have c8b2 : (t115 == (decide (t112 ≥ 0))) = false := by simpa using c8))
     (try (have c8b3 : ¬ (t115 = (decide (t112 ≥ 0))) := by simpa using c8))
     clear c8
     obtain rfl := Option.some.inj H
     go_enter Try.func4, Try.ntmps4
     go_wp2_with (first | ((with_reducible refine gate_callee (f := 13) rfl ?_); refine goesL_ (some 17) rfl rfl Try.func13 (by kernel_rfl) rfl #[.string a0] rfl (by (try simp only [List.map_toArray, List.map_cons, List.map_nil]); first | done | rfl | (simp only [List.length_drop, List.length_take]; rfl)) ?_; (with_reducible refine (spec_Closing.calls k a0 t112 _ A4.out).mono ?_); rintro e w' ⟨rfl, ⟨nd, rfl⟩⟩; refine ⟨_, rfl, ?_⟩) | ((with_reducible refine gate_callee (f := 14) rfl ?_); refine goesL_ (some 20) rfl rfl Try.func14 (by kernel_rfl) rfl #[.string a0] rfl (by (try simp only [List.map_toArray, List.map_cons, List.map_nil]); first | done | rfl | (simp only [List.length_drop, List.length_take]; rfl)) ?_; (with_reducible refine (impl_FjRawString.calls k a0 t113 t114 t115 _ A5.out).mono ?_); rintro e w22 ⟨rfl, hb⟩; refine ⟨_, rfl, ?_⟩; have n0_ := Aside0.mk (below_step (by repeat (first | (with_reducible first | exact HB.out | apply below_alloc | apply pw_below_drewN | apply below_drew1) | exact HB.out)) hb); clear HB; have HB := n0_; clear n0_; (try clear hb); (try clear hb2); (try clear hk); (try clear hi)) | ((with_reducible refine gate_callee (f := 14) rfl ?_); refine goesL_ (some 25) rfl rfl Try.func14 (by kernel_rfl) rfl #[.string (⟨#[34]⟩ : ByteArray)] rfl (by (try simp only [List.map_toArray, List.map_cons, List.map_nil]); first | done | rfl | (simp only [List.length_drop, List.length_take]; rfl)) ?_; (with_reducible refine (impl_FjRawString.calls k (⟨#[34]⟩ : ByteArray) t116 t117 true _ A6.out).mono ?_); rintro e w23 ⟨rfl, hb⟩; refine ⟨_, rfl, ?_⟩; have n0_ := Aside0.mk (below_step (by repeat (first | (with_reducible first | exact HB.out | apply below_alloc | apply pw_below_drewN | apply below_drew1) | exact HB.out)) hb); clear HB; have HB := n0_; clear n0_; (try clear hb); (try clear hb2); (try clear hk); (try clear hi)))
     go_ret
     exact ⟨by first | rfl | (simp [errX_none, errX_some] <;> rfl) | (simp [*, errX_none, errX_some] <;> rfl), by repeat (first | (with_reducible first | exact HB.out | apply below_alloc | apply pw_below_drewN | apply below_drew1) | exact HB.out)⟩
   ·
    replace c7 := Bool.eq_false_iff.mpr c7
    subst c7
    have H1 : (some false) = some r := by rw [if_neg (show ¬ (false = true) by decide)] at H; exact H
    clear H
    have H := H1
    clear H1
    obtain rfl := Option.some.inj H
    go_enter Try.func4, Try.ntmps4
    go_wp2_with (first | ((with_reducible refine gate_callee (f := 13) rfl ?_); refine goesL_ (some 17) rfl rfl Try.func13 (by kernel_rfl) rfl #[.string a0] rfl (by (try simp only [List.map_toArray, List.map_cons, List.map_nil]); first | done | rfl | (simp only [List.length_drop, List.length_take]; rfl)) ?_; (with_reducible refine (spec_Closing.calls k a0 t112 _ A4.out).mono ?_); rintro e w' ⟨rfl, ⟨nd, rfl⟩⟩; refine ⟨_, rfl, ?_⟩) | ((with_reducible refine gate_callee (f := 14) rfl ?_); refine goesL_ (some 20) rfl rfl Try.func14 (by kernel_rfl) rfl #[.string a0] rfl (by (try simp only [List.map_toArray, List.map_cons, List.map_nil]); first | done | rfl | (simp only [List.length_drop, List.length_take]; rfl)) ?_; (with_reducible refine (impl_FjRawString.calls k a0 t113 t114 t115 _ A5.out).mono ?_); rintro e w24 ⟨rfl, hb⟩; refine ⟨_, rfl, ?_⟩; have n0_ := Aside0.mk (below_step (by repeat (first | (with_reducible first | exact HB.out | apply below_alloc | apply pw_below_drewN | apply below_drew1) | exact HB.out)) hb); clear HB; have HB := n0_; clear n0_; (try clear hb); (try clear hb2); (try clear hk); (try clear hi)) | ((with_reducible refine gate_callee (f := 14) rfl ?_); refine goesL_ (some 25) rfl rfl Try.func14 (by kernel_rfl) rfl #[.string (⟨#[34]⟩ : ByteArray)] rfl (by (try simp only [List.map_toArray, List.map_cons, List.map_nil]); first | done | rfl | (simp only [List.length_drop, List.length_take]; rfl)) ?_; (with_reducible refine (impl_FjRawString.calls k (⟨#[34]⟩ : ByteArray) t116 t117 false _ A6.out).mono ?_); rintro e w25 ⟨rfl, hb⟩; refine ⟨_, rfl, ?_⟩; have n0_ := Aside0.mk (below_step (by repeat (first | (with_reducible first | exact HB.out | apply below_alloc | apply pw_below_drewN | apply below_drew1) | exact HB.out)) hb); clear HB; have HB := n0_; clear n0_; (try clear hb); (try clear hb2); (try clear hk); (try clear hi)))
    go_ret
    exact ⟨by first | rfl | (simp [errX_none, errX_some] <;> rfl) | (simp [*, errX_none, errX_some] <;> rfl), by repeat (first | (with_reducible first | exact HB.out | apply below_alloc | apply pw_below_drewN | apply below_drew1) | exact HB.out)⟩

/-- THE ONE PURE STATEMENT of laws_FnFjRawString: yours. -/
def laws_FnFjRawString.Pure : Prop := ∀ (a0 : ByteArray), a0.size ≤ 140737488351232 → ∃ k, laws_FnFjRawString.f k a0 = some true
theorem laws_FnFjRawString.walk (P : laws_FnFjRawString.Pure) (a0 : ByteArray) (w : World) (w0 : a0.size ≤ 140737488351232) :
    Calls Try.prog 4 #[.string a0] w fun e w' => e = .returned (.bool true) ∧ Below w.heap.size w w' := by
  obtain ⟨k, h⟩ := P a0 w0
  refine (laws_FnFjRawString.calls k a0 true w h).mono ?_
  rintro e w' ⟨rfl, hd⟩
  exact ⟨rfl, hd⟩

end Go.Proofs.Ytnmbpleneddkhaa.PFnFjRawString
