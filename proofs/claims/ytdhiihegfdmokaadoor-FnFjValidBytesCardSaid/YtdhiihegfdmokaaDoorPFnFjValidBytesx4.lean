-- Written by a program of this session (wip/prx) out of the print of the loaded functions.
import Derived.Test.YtdhiihegfdmokaaDoorPFnFjValidBytesx0
import Derived.Test.YtdhiihegfdmokaaDoorPFnFjValidBytesx3
import Derived.Test.YtdhiihegfdmokaaDoorGXFnFjValidBytes
import Derived.Test.YtdhiihegfdmokaaDoorHEFnFjValidBytes
namespace Go.Proofs.YtdhiihegfdmokaaDoor.PFnFjValidBytes
open Go.RowKit Go.Proofs.YtdhiihegfdmokaaDoorW.PrintWords Go.Proofs.YtdhiihegfdmokaaDoorW.PrintLast Go.Proofs.YtdhiihegfdmokaaDoorW.PrintMore
attribute [local go_sem] max2_int min2_int max_two min_two max_three min_three max_four min_four   -- for this text's walks alone
set_option linter.unusedVariables false
set_option linter.unusedSimpArgs false

/-! ### fastjson_validateKey: function 53 -/
def fastjson_validateKey.l0 : Nat → ByteArray → Int → Int → Option (ByteArray × ByteArray × Option Int)
  | 0, _, _, _ => none
  | k + 1, x0, x7, x8 => if x8 < x7 then (if 0 ≤ x8 then (if x8 < (x0.size : Int) then (if (bt x0 x8) = 34 then (if x8 ≤ (x0.size : Int) then (if 0 ≤ (wrap64 (x8 + 1)) then (if (wrap64 (x8 + 1)) ≤ (x0.size : Int) then (some (x0.extract 0 (x8 : Int).toNat, x0.extract ((wrap64 (x8 + 1)) : Int).toNat x0.size, none)) else (none)) else (none)) else (none)) else (if (bt x0 x8) = 92 then ((fastjson_validateString.f k x0).bind fun bt121 => (some (bt121.1, bt121.2.1, bt121.2.2))) else (fastjson_validateKey.l0 k x0 x7 (wrap64 (x8 + 1))))) else (none)) else (none)) else ((errors_New.f (⟨#[109, 105, 115, 115, 105, 110, 103, 32, 99, 108, 111, 115, 105, 110, 103]⟩ : ByteArray)).bind fun t120 => (some ((⟨#[]⟩ : ByteArray), x0, t120)))
def fastjson_validateKey.f (k : Nat) (a0 : ByteArray) : Option (ByteArray × ByteArray × Option Int) := fastjson_validateKey.l0 k a0 (a0.size : Int) 0
theorem fastjson_validateKey.mono_l : ∀ k, (∀ y0 y1 y2, LeO (fastjson_validateKey.l0 k y0 y1 y2) (fastjson_validateKey.l0 (k + 1) y0 y1 y2))
  | 0 => fun _ _ _ r h => by simp [fastjson_validateKey.l0] at h
  | k + 1 => by
    have ih0 := fastjson_validateKey.mono_l k
    · intro y0 y1 y2
      unfold fastjson_validateKey.l0
      repeat' first
      | (with_reducible exact ih0 _ _ _)
      | (with_reducible exact fastjson_validateString.mono _ _)
      | (with_reducible exact LeO.refl _)
      | (with_reducible exact LeO.none _)
      | (with_reducible refine LeO.ite ?_ ?_)
      | (with_reducible refine LeO.bind ?_ (fun _ => ?_))
      | exact ih0 _ _ _
      | exact fastjson_validateString.mono _ _
      | exact LeO.none _
      | refine LeO.ite ?_ ?_
      | refine LeO.bind ?_ (fun _ => ?_)
theorem fastjson_validateKey.mono : ∀ a0 k, LeO (fastjson_validateKey.f k a0) (fastjson_validateKey.f (k + 1) a0) := by
  intro a0 k
  have ih0 := fastjson_validateKey.mono_l k
  unfold fastjson_validateKey.f
  repeat' first
      | (with_reducible exact ih0 _ _ _)
      | (with_reducible exact fastjson_validateString.mono _ _)
      | (with_reducible exact LeO.refl _)
      | (with_reducible exact LeO.none _)
      | (with_reducible refine LeO.ite ?_ ?_)
      | (with_reducible refine LeO.bind ?_ (fun _ => ?_))
      | exact ih0 _ _ _
      | exact fastjson_validateString.mono _ _
      | exact LeO.none _
      | refine LeO.ite ?_ ?_
      | refine LeO.bind ?_ (fun _ => ?_)
set_option maxHeartbeats 8000000 in
set_option maxRecDepth 100000 in
theorem fastjson_validateKey.calls (k : Nat) (a0 : ByteArray) (r1 : ByteArray) (r2 : ByteArray) (r3 : Option Int) (w : World) (h : fastjson_validateKey.f k a0 = some (r1, r2, r3)) (hG : Glob w) :
    Calls Tryd.prog 53 #[.string a0] w fun e w' => ∃ evr3 : TypeId × Value, e = .returned (.tuple #[.string r1, .string r2, errX r3 evr3]) ∧ Below w.heap.size w w' := by
 have HB := Aside0.mk (Below.refl w.heap.size w)
 have HG := Aside0.mk hG
 clear hG
 have H : (fastjson_validateKey.l0 k a0 (a0.size : Int) 0) = some (r1, r2, r3) := h
 clear h
 have H' := Aside0.mk H
 clear H
 go_enter Tryd.func53, Tryd.ntmps53
 go_wp2
 repeat (go_quiet (fail); try go_wp2)
 try simp only [Act.put, List.setIfInBounds_toArray, List.set_cons_succ, List.set_cons_zero]
 go_loopg [8] k (fun kq v8 w' => ∃ (x8_1 : Int), v8 = .int .i64 x8_1 ∧ Aside0 (fastjson_validateKey.l0 kq a0 (a0.size : Int) x8_1 = some (r1, r2, r3)) ∧ Aside0 (kq ≤ k) ∧ Aside0 (Below w.heap.size w w'))
 case atStart => exact ⟨(0), (by first | rfl | (simp; done) | (simp [nil_ne_, nil_eq_]; done) | (simp [*]; done)), H', ⟨Nat.le_refl _⟩, ⟨by repeat (first | (with_reducible first | exact HB.out | apply below_alloc | apply pw_below_drewN | apply below_drew1) | exact HB.out)⟩⟩
 case round =>
  clear H'
  obtain ⟨x8_1, rfl, HA, HK1, HB⟩ := hrel
  cases gk with
  | zero => exact absurd HA.out (by simp [fastjson_validateKey.l0])
  | succ k1 =>
   have H := HA.out
   clear HA
   simp only [fastjson_validateKey.l0] at H
   by_cases c2 : x8_1 < (a0.size : Int)
   ·
    rw [if_pos c2] at H
    have c2b0 : decide (x8_1 < (a0.size : Int)) = true := decide_eq_true c2
    clear c2
    by_cases c3 : 0 ≤ x8_1
    ·
     rw [if_pos c3] at H
     have c3b0 : decide (0 ≤ x8_1) = true := decide_eq_true c3
     clear c3
     by_cases c4 : x8_1 < (a0.size : Int)
     ·
      rw [if_pos c4] at H
      have c4b0 : decide (x8_1 < (a0.size : Int)) = true := decide_eq_true c4
      clear c4
      by_cases c6 : (bt a0 x8_1) = 34
      ·
       rw [if_pos c6] at H
       have c6b0 : ((bt a0 x8_1) == 34) = true := beq_iff_eq.mpr c6
       have c6b1 : ((bt a0 x8_1) != 34) = false := bne_eq_false_iff_eq.mpr c6
       clear c6
       have c7b0 := eq_true (of_decide_eq_true (by first | (with_reducible assumption) | assumption) : 0 ≤ x8_1)
       by_cases c8 : x8_1 ≤ (a0.size : Int)
       ·
        rw [if_pos c8] at H
        have c8b0 := eq_true c8
        have c8b1 : decide (x8_1 ≤ (a0.size : Int)) = true := decide_eq_true c8
        clear c8
        obtain ⟨js9, hjs9⟩ : ∃ j_ : ByteArray, (a0.extract 0 (x8_1 : Int).toNat) = j_ := ⟨_, rfl⟩
        skip
        replace H : (if 0 ≤ (wrap64 (x8_1 + 1)) then (if (wrap64 (x8_1 + 1)) ≤ (a0.size : Int) then (some (js9, a0.extract ((wrap64 (x8_1 + 1)) : Int).toNat a0.size, none)) else (none)) else (none)) = some (r1, r2, r3) := by first | (rw [hjs9] at H; exact H) | (simp only [hjs9] at H ⊢; exact H)
        obtain ⟨ji10, hji10⟩ : ∃ j_ : Int, (wrap64 (x8_1 + 1)) = j_ := ⟨_, rfl⟩
        replace H : (if 0 ≤ (ji10) then (if (ji10) ≤ (a0.size : Int) then (some (js9, a0.extract ((ji10) : Int).toNat a0.size, none)) else (none)) else (none)) = some (r1, r2, r3) := by first | (rw [hji10] at H; exact H) | (simp only [hji10] at H ⊢; exact H)
        have hji10w : (IntKind.i64.wrap (x8_1 + 1)) = ji10 := (i64_w _).trans hji10
        by_cases c11 : 0 ≤ (ji10)
        ·
         rw [if_pos c11] at H
         have c11b0 := eq_true c11
         have c11b1 : decide (0 ≤ (ji10)) = true := decide_eq_true c11
         clear c11
         by_cases c12 : (ji10) ≤ (a0.size : Int)
         ·
          rw [if_pos c12] at H
          have c12b0 := eq_true c12
          have c12b1 : decide ((ji10) ≤ (a0.size : Int)) = true := decide_eq_true c12
          clear c12
          obtain ⟨js13, hjs13⟩ : ∃ j_ : ByteArray, (a0.extract ((ji10) : Int).toNat a0.size) = j_ := ⟨_, rfl⟩
          skip
          replace H : (some (js9, js13, none)) = some (r1, r2, r3) := by first | (rw [hjs13] at H; exact H) | (simp only [hjs13] at H ⊢; exact H)
          simp only [Option.some.injEq, Prod.mk.injEq] at H
          obtain ⟨rfl, rfl, rfl⟩ := H
          have p5 : 0 ≤ (x8_1 : Int) := of_decide_eq_true (by first | (with_reducible assumption) | assumption)
          have q5 : x8_1 < (a0.size : Int) := of_decide_eq_true (by first | (with_reducible assumption) | assumption)
          have hx5 := bt_at a0 x8_1
          replace p5 := eq_true p5
          replace q5 := eq_true q5
          go_wp2
          repeat (go_quiet (fail); try go_wp2)
          go_ret3
          first | exact ⟨(0, Value.nilIface), by first | rfl | (simp [errX_none, errX_some] <;> rfl) | (simp only [← hjs9, ← hji10, ← hjs13]; first | rfl | (simp [errX_none, errX_some] <;> rfl)) | (simp [*, errX_none, errX_some] <;> rfl), by repeat (first | (with_reducible first | exact HB.out | apply below_alloc | apply pw_below_drewN | apply below_drew1) | exact HB.out)⟩ | exact ⟨⟨((0, Value.nilIface)).1, ((0, Value.nilIface)).2, by first | rfl | (simp [errX_none, errX_some] <;> rfl) | (simp only [← hjs9, ← hji10, ← hjs13]; first | rfl | (simp [errX_none, errX_some] <;> rfl)) | (simp [*, errX_none, errX_some] <;> rfl)⟩, by repeat (first | (with_reducible first | exact HB.out | apply below_alloc | apply pw_below_drewN | apply below_drew1) | exact HB.out)⟩
         ·
          rw [if_neg c12] at H
          exact absurd H (by simp)
        ·
         rw [if_neg c11] at H
         exact absurd H (by simp)
       ·
        rw [if_neg c8] at H
        exact absurd H (by simp)
      ·
       rw [if_neg c6] at H
       have c6b0 : ((bt a0 x8_1) == 34) = false := beq_eq_false_iff_ne.mpr c6
       have c6b1 : ((bt a0 x8_1) != 34) = true := bne_iff_ne.mpr c6
       by_cases c15 : (bt a0 x8_1) = 92
       ·
        rw [if_pos c15] at H
        have c15b0 : ((bt a0 x8_1) == 92) = true := beq_iff_eq.mpr c15
        have c15b1 : ((bt a0 x8_1) != 92) = false := bne_eq_false_iff_eq.mpr c15
        clear c15
        replace H := Option.bind_eq_some_iff.mp H
        obtain ⟨⟨t121, t122, t123⟩, A160, H⟩ := H
        replace H : (some (t121, t122, t123)) = some (r1, r2, r3) := H
        have A16 := Aside0.mk A160
        clear A160
        simp only [Option.some.injEq, Prod.mk.injEq] at H
        obtain ⟨rfl, rfl, rfl⟩ := H
        have p5 : 0 ≤ (x8_1 : Int) := of_decide_eq_true (by first | (with_reducible assumption) | assumption)
        have q5 : x8_1 < (a0.size : Int) := of_decide_eq_true (by first | (with_reducible assumption) | assumption)
        have hx5 := bt_at a0 x8_1
        replace p5 := eq_true p5
        replace q5 := eq_true q5
        have p14 : 0 ≤ (x8_1 : Int) := of_decide_eq_true (by first | (with_reducible assumption) | assumption)
        have q14 : x8_1 < (a0.size : Int) := of_decide_eq_true (by first | (with_reducible assumption) | assumption)
        have hx14 := bt_at a0 x8_1
        replace p14 := eq_true p14
        replace q14 := eq_true q14
        iterate 3 (try go_wp2_with (first | (go_at_call 56; (with_reducible refine (fastjson_validateString.calls k1 a0 t121 t122 t123 _ A16.out (HG.out.below (by repeat (first | (with_reducible first | exact HB.out | apply below_alloc | apply pw_below_drewN | apply below_drew1) | exact HB.out)))).mono ?_); rintro e w17 ⟨evt123, rfl, hb⟩; have n0_ := Aside0.mk (below_step (by repeat (first | (with_reducible first | exact HB.out | apply below_alloc | apply pw_below_drewN | apply below_drew1) | exact HB.out)) hb); clear HB; have HB := n0_; clear n0_; (try clear hb); (try clear hb2); (try clear hk); (try clear hi); (try simp only [errX_none, errX_some]))); try go_quiet (first | (go_at_call 56; (with_reducible refine (fastjson_validateString.calls k1 a0 t121 t122 t123 _ A16.out (HG.out.below (by repeat (first | (with_reducible first | exact HB.out | apply below_alloc | apply pw_below_drewN | apply below_drew1) | exact HB.out)))).mono ?_); rintro e w17 ⟨evt123, rfl, hb⟩; have n0_ := Aside0.mk (below_step (by repeat (first | (with_reducible first | exact HB.out | apply below_alloc | apply pw_below_drewN | apply below_drew1) | exact HB.out)) hb); clear HB; have HB := n0_; clear n0_; (try clear hb); (try clear hb2); (try clear hk); (try clear hi); (try simp only [errX_none, errX_some]))))
        go_ret3
        first | exact ⟨evt123, by first | rfl | (simp [errX_none, errX_some] <;> rfl) | (simp [*, errX_none, errX_some] <;> rfl), by repeat (first | (with_reducible first | exact HB.out | apply below_alloc | apply pw_below_drewN | apply below_drew1) | exact HB.out)⟩ | exact ⟨⟨(evt123).1, (evt123).2, by first | rfl | (simp [errX_none, errX_some] <;> rfl) | (simp [*, errX_none, errX_some] <;> rfl)⟩, by repeat (first | (with_reducible first | exact HB.out | apply below_alloc | apply pw_below_drewN | apply below_drew1) | exact HB.out)⟩
       ·
        rw [if_neg c15] at H
        have c15b0 : ((bt a0 x8_1) == 92) = false := beq_eq_false_iff_ne.mpr c15
        have c15b1 : ((bt a0 x8_1) != 92) = true := bne_iff_ne.mpr c15
        have H' := Aside0.mk H
        clear H
        have p5 : 0 ≤ (x8_1 : Int) := of_decide_eq_true (by first | (with_reducible assumption) | assumption)
        have q5 : x8_1 < (a0.size : Int) := of_decide_eq_true (by first | (with_reducible assumption) | assumption)
        have hx5 := bt_at a0 x8_1
        replace p5 := eq_true p5
        replace q5 := eq_true q5
        have p14 : 0 ≤ (x8_1 : Int) := of_decide_eq_true (by first | (with_reducible assumption) | assumption)
        have q14 : x8_1 < (a0.size : Int) := of_decide_eq_true (by first | (with_reducible assumption) | assumption)
        have hx14 := bt_at a0 x8_1
        replace p14 := eq_true p14
        replace q14 := eq_true q14
        go_wp2
        repeat (go_quiet (fail); try go_wp2)
        go_roundg k1
        case measure => have := HK1.out; omega
        case rel => exact ⟨(wrap64 (x8_1 + 1)), (by first | rfl | (simp; done) | (simp [nil_ne_, nil_eq_]; done) | (simp [*]; done)), H', ⟨by have := HK1.out; omega⟩, ⟨by repeat (first | (with_reducible first | exact HB.out | apply below_alloc | apply pw_below_drewN | apply below_drew1) | exact HB.out)⟩⟩
     ·
      rw [if_neg c4] at H
      exact absurd H (by simp)
    ·
     rw [if_neg c3] at H
     exact absurd H (by simp)
   ·
    rw [if_neg c2] at H
    have c2b0 : decide (x8_1 < (a0.size : Int)) = false := decide_eq_false c2
    clear c2
    replace H := Option.bind_eq_some_iff.mp H
    obtain ⟨t120, A180, H⟩ := H
    replace H : (some ((⟨#[]⟩ : ByteArray), a0, t120)) = some (r1, r2, r3) := H
    have A18 := Aside0.mk A180
    clear A180
    simp only [Option.some.injEq, Prod.mk.injEq] at H
    obtain ⟨rfl, rfl, rfl⟩ := H
    iterate 3 (try go_wp2_with (first | (go_at_call 37; (with_reducible refine (errors_New.calls (⟨#[109, 105, 115, 115, 105, 110, 103, 32, 99, 108, 111, 115, 105, 110, 103]⟩ : ByteArray) t120 _ A18.out).mono ?_); rintro e w19 ⟨evt120, rfl, hb⟩; have n0_ := Aside0.mk (below_step (by repeat (first | (with_reducible first | exact HB.out | apply below_alloc | apply pw_below_drewN | apply below_drew1) | exact HB.out)) hb); clear HB; have HB := n0_; clear n0_; (try clear hb); (try clear hb2); (try clear hk); (try clear hi); (try simp only [errX_none, errX_some]))); try go_quiet (first | (go_at_call 37; (with_reducible refine (errors_New.calls (⟨#[109, 105, 115, 115, 105, 110, 103, 32, 99, 108, 111, 115, 105, 110, 103]⟩ : ByteArray) t120 _ A18.out).mono ?_); rintro e w19 ⟨evt120, rfl, hb⟩; have n0_ := Aside0.mk (below_step (by repeat (first | (with_reducible first | exact HB.out | apply below_alloc | apply pw_below_drewN | apply below_drew1) | exact HB.out)) hb); clear HB; have HB := n0_; clear n0_; (try clear hb); (try clear hb2); (try clear hk); (try clear hi); (try simp only [errX_none, errX_some]))))
    go_ret3
    first | exact ⟨evt120, by first | rfl | (simp [errX_none, errX_some] <;> rfl) | (simp [*, errX_none, errX_some] <;> rfl), by repeat (first | (with_reducible first | exact HB.out | apply below_alloc | apply pw_below_drewN | apply below_drew1) | exact HB.out)⟩ | exact ⟨⟨(evt120).1, (evt120).2, by first | rfl | (simp [errX_none, errX_some] <;> rfl) | (simp [*, errX_none, errX_some] <;> rfl)⟩, by repeat (first | (with_reducible first | exact HB.out | apply below_alloc | apply pw_below_drewN | apply below_drew1) | exact HB.out)⟩

end Go.Proofs.YtdhiihegfdmokaaDoor.PFnFjValidBytes
