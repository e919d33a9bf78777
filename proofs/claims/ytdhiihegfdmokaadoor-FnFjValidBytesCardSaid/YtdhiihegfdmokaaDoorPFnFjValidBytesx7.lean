-- Written by a program of this session (wip/prx) out of the print of the loaded functions.
import Derived.Test.YtdhiihegfdmokaaDoorPFnFjValidBytesx0
import Derived.Test.YtdhiihegfdmokaaDoorPFnFjValidBytesx1
import Derived.Test.YtdhiihegfdmokaaDoorPFnFjValidBytesx4
import Derived.Test.YtdhiihegfdmokaaDoorPFnFjValidBytesx6
import Derived.Test.YtdhiihegfdmokaaDoorHEFnFjValidBytes
namespace Go.Proofs.YtdhiihegfdmokaaDoor.PFnFjValidBytes
open Go.RowKit Go.Proofs.YtdhiihegfdmokaaDoorW.PrintWords Go.Proofs.YtdhiihegfdmokaaDoorW.PrintLast Go.Proofs.YtdhiihegfdmokaaDoorW.PrintMore
attribute [local go_sem] max2_int min2_int max_two min_two max_three min_three max_four min_four   -- for this text's walks alone
set_option linter.unusedVariables false
set_option linter.unusedSimpArgs false

/-! ### fastjson_validateObject: function 34 -/
set_option maxHeartbeats 8000000 in
set_option maxRecDepth 100000 in
theorem fastjson_validateObject.calls_ (k : Nat) (ih_fastjson_validateObject : ∀ m_, m_ < k → fastjson_validateObject.CallsP m_) (ih_fastjson_validateValue : ∀ m_, m_ < k → fastjson_validateValue.CallsP m_) (ih_fastjson_validateArray : ∀ m_, m_ < k → fastjson_validateArray.CallsP m_) : fastjson_validateObject.CallsP k := by
 intro a0 r1 r2 w h hG
 cases k with
  | zero => exact absurd h (by simp [fastjson_validateObject.f])
  | succ k =>
 simp only [fastjson_validateObject.f] at h
 have hu43 := Tryd.underlying43
 have HB := Aside0.mk (Below.refl w.heap.size w)
 have HG := Aside0.mk hG
 clear hG
 have H : ((fastjson_skipWS.f k a0).bind fun t133 => (if (t133.size : Int) = 0 then ((errors_New.f (⟨#[109, 105, 115, 115, 105, 110, 103, 32, 39, 125]⟩ : ByteArray)).bind fun t134 => (some (t133, t134))) else (if 0 < (t133.size : Int) then (if (bt t133 0) = 125 then (if 1 ≤ (t133.size : Int) then (some (t133.extract 1 t133.size, none)) else (none)) else (fastjson_validateObject.l0 k t133)) else (none)))) = some (r1, r2) := h
 clear h
 replace H := Option.bind_eq_some_iff.mp H
 obtain ⟨t133, A20, H⟩ := H
 replace H : (if (t133.size : Int) = 0 then ((errors_New.f (⟨#[109, 105, 115, 115, 105, 110, 103, 32, 39, 125]⟩ : ByteArray)).bind fun t134 => (some (t133, t134))) else (if 0 < (t133.size : Int) then (if (bt t133 0) = 125 then (if 1 ≤ (t133.size : Int) then (some (t133.extract 1 t133.size, none)) else (none)) else (fastjson_validateObject.l0 k t133)) else (none))) = some (r1, r2) := H
 have A2 := Aside0.mk A20
 clear A20
 by_cases c3 : (t133.size : Int) = 0
 ·
  rw [if_pos c3] at H
  have c3b0 : ((t133.size : Int) == 0) = true := beq_iff_eq.mpr c3
  have c3b1 : ((t133.size : Int) != 0) = false := bne_eq_false_iff_eq.mpr c3
  clear c3
  replace H := Option.bind_eq_some_iff.mp H
  obtain ⟨t134, A40, H⟩ := H
  replace H : (some (t133, t134)) = some (r1, r2) := H
  have A4 := Aside0.mk A40
  clear A40
  simp only [Option.some.injEq, Prod.mk.injEq] at H
  obtain ⟨rfl, rfl⟩ := H
  go_enter Tryd.func34, Tryd.ntmps34
  go_wp2_with (first | ((with_reducible refine gate_callee (f := 35) rfl ?_); refine goesL_ (some 8) rfl rfl Tryd.func35 (by kernel_rfl) rfl #[.string a0] rfl (by (try simp only [List.map_toArray, List.map_cons, List.map_nil]); first | done | rfl | (simp only [List.length_drop, List.length_take]; rfl)) ?_; (with_reducible refine (fastjson_skipWS.calls k a0 t133 _ A2.out).mono ?_); rintro e w' ⟨rfl, ⟨nd, rfl⟩⟩; refine ⟨_, rfl, ?_⟩) | ((with_reducible refine gate_callee (f := 37) rfl ?_); refine goesL_ (some 13) rfl rfl Tryd.func37 (by kernel_rfl) rfl #[.string (⟨#[109, 105, 115, 115, 105, 110, 103, 32, 39, 125]⟩ : ByteArray)] rfl (by (try simp only [List.map_toArray, List.map_cons, List.map_nil]); first | done | rfl | (simp only [List.length_drop, List.length_take]; rfl)) ?_; (with_reducible refine (errors_New.calls (⟨#[109, 105, 115, 115, 105, 110, 103, 32, 39, 125]⟩ : ByteArray) t134 _ A4.out).mono ?_); rintro e w5 ⟨evt134, rfl, hb⟩; refine ⟨_, rfl, ?_⟩; have n0_ := Aside0.mk (below_step (by repeat (first | (with_reducible first | exact HB.out | apply below_alloc | apply pw_below_drewN | apply below_drew1) | exact HB.out)) hb); clear HB; have HB := n0_; clear n0_; (try clear hb); (try clear hb2); (try clear hk); (try clear hi); (try simp only [errX_none, errX_some])))
  go_ret2
  first | exact ⟨evt134, by first | rfl | (simp [errX_none, errX_some] <;> rfl) | (simp [*, errX_none, errX_some] <;> rfl), by repeat (first | (with_reducible first | exact HB.out | apply below_alloc | apply pw_below_drewN | apply below_drew1) | exact HB.out)⟩ | exact ⟨⟨(evt134).1, (evt134).2, by first | rfl | (simp [errX_none, errX_some] <;> rfl) | (simp [*, errX_none, errX_some] <;> rfl)⟩, by repeat (first | (with_reducible first | exact HB.out | apply below_alloc | apply pw_below_drewN | apply below_drew1) | exact HB.out)⟩
 ·
  rw [if_neg c3] at H
  have c3b0 : ((t133.size : Int) == 0) = false := beq_eq_false_iff_ne.mpr c3
  have c3b1 : ((t133.size : Int) != 0) = true := bne_iff_ne.mpr c3
  by_cases c6 : 0 < (t133.size : Int)
  ·
   rw [if_pos c6] at H
   have c6b0 : decide (0 < (t133.size : Int)) = true := decide_eq_true c6
   have c6b1 : decide (0 < t133.size) = true := decide_eq_true (by omega)
   clear c6
   by_cases c8 : (bt t133 0) = 125
   ·
    rw [if_pos c8] at H
    have c8b0 : ((bt t133 0) == 125) = true := beq_iff_eq.mpr c8
    have c8b1 : ((bt t133 0) != 125) = false := bne_eq_false_iff_eq.mpr c8
    clear c8
    by_cases c9 : 1 ≤ (t133.size : Int)
    ·
     rw [if_pos c9] at H
     have c9b0 := eq_true c9
     have c9b1 : decide (1 ≤ (t133.size : Int)) = true := decide_eq_true c9
     clear c9
     obtain ⟨js10, hjs10⟩ : ∃ j_ : ByteArray, (t133.extract 1 t133.size) = j_ := ⟨_, rfl⟩
     skip
     replace H : (some (js10, none)) = some (r1, r2) := by first | (rw [hjs10] at H; exact H) | (simp only [hjs10] at H ⊢; exact H)
     simp only [Option.some.injEq, Prod.mk.injEq] at H
     obtain ⟨rfl, rfl⟩ := H
     go_enter Tryd.func34, Tryd.ntmps34
     go_wp2_with (first | ((with_reducible refine gate_callee (f := 35) rfl ?_); refine goesL_ (some 8) rfl rfl Tryd.func35 (by kernel_rfl) rfl #[.string a0] rfl (by (try simp only [List.map_toArray, List.map_cons, List.map_nil]); first | done | rfl | (simp only [List.length_drop, List.length_take]; rfl)) ?_; (with_reducible refine (fastjson_skipWS.calls k a0 t133 _ A2.out).mono ?_); rintro e w' ⟨rfl, ⟨nd, rfl⟩⟩; refine ⟨_, rfl, ?_⟩; have p7 : 0 ≤ (0 : Int) := (by omega); have q7 : 0 < t133.size := (by have : (0 : Int) < (t133.size : Int) := of_decide_eq_true (by first | (with_reducible assumption) | assumption); omega); have hx7 := bt_lit t133 0 0 rfl; clear p7; have qi7 : (0 < (t133.size : Int)) = True := eq_true (of_decide_eq_true (by first | (with_reducible assumption) | assumption)); replace q7 := eq_true q7))
     go_ret2
     first | exact ⟨(0, Value.nilIface), by first | rfl | (simp [errX_none, errX_some] <;> rfl) | (simp only [← hjs10]; first | rfl | (simp [errX_none, errX_some] <;> rfl)) | (simp [*, errX_none, errX_some] <;> rfl), by repeat (first | (with_reducible first | exact HB.out | apply below_alloc | apply pw_below_drewN | apply below_drew1) | exact HB.out)⟩ | exact ⟨⟨((0, Value.nilIface)).1, ((0, Value.nilIface)).2, by first | rfl | (simp [errX_none, errX_some] <;> rfl) | (simp only [← hjs10]; first | rfl | (simp [errX_none, errX_some] <;> rfl)) | (simp [*, errX_none, errX_some] <;> rfl)⟩, by repeat (first | (with_reducible first | exact HB.out | apply below_alloc | apply pw_below_drewN | apply below_drew1) | exact HB.out)⟩
    ·
     rw [if_neg c9] at H
     exact absurd H (by simp)
   ·
    rw [if_neg c8] at H
    have c8b0 : ((bt t133 0) == 125) = false := beq_eq_false_iff_ne.mpr c8
    have c8b1 : ((bt t133 0) != 125) = true := bne_iff_ne.mpr c8
    have H' := Aside0.mk H
    clear H
    go_enter Tryd.func34, Tryd.ntmps34
    go_wp2_with (first | ((with_reducible refine gate_callee (f := 35) rfl ?_); refine goesL_ (some 8) rfl rfl Tryd.func35 (by kernel_rfl) rfl #[.string a0] rfl (by (try simp only [List.map_toArray, List.map_cons, List.map_nil]); first | done | rfl | (simp only [List.length_drop, List.length_take]; rfl)) ?_; (with_reducible refine (fastjson_skipWS.calls k a0 t133 _ A2.out).mono ?_); rintro e w' ⟨rfl, ⟨nd, rfl⟩⟩; refine ⟨_, rfl, ?_⟩; have p7 : 0 ≤ (0 : Int) := (by omega); have q7 : 0 < t133.size := (by have : (0 : Int) < (t133.size : Int) := of_decide_eq_true (by first | (with_reducible assumption) | assumption); omega); have hx7 := bt_lit t133 0 0 rfl; clear p7; have qi7 : (0 < (t133.size : Int)) = True := eq_true (of_decide_eq_true (by first | (with_reducible assumption) | assumption)); replace q7 := eq_true q7))
    try simp only [Act.put, List.setIfInBounds_toArray, List.set_cons_succ, List.set_cons_zero]
    go_loopg [0] k (fun kq v0 w' => ∃ (x0_1 : ByteArray), v0 = .string x0_1 ∧ Aside0 (fastjson_validateObject.l0 kq x0_1 = some (r1, r2)) ∧ Aside0 (kq ≤ k) ∧ Aside0 (Below w.heap.size w w'))
    case atStart => exact ⟨(t133), (by first | rfl | (simp; done) | (simp [nil_ne_, nil_eq_]; done) | (simp [*]; done)), H', ⟨Nat.le_refl _⟩, ⟨by repeat (first | (with_reducible first | exact HB.out | apply below_alloc | apply pw_below_drewN | apply below_drew1) | exact HB.out)⟩⟩
    case round =>
     clear H'
     try clear p2
     try clear c3
     try clear c3b0
     try clear c3b1
     try clear c6
     try clear c6b0
     try clear c6b1
     try clear p7
     try clear q7
     try clear hx7
     try clear qi7
     try clear c8
     try clear c8b0
     try clear c8b1
     try clear c9
     try clear c9b0
     try clear c9b1
     try clear p7
     try clear q7
     obtain ⟨x0_1, rfl, HA, HK1, HB⟩ := hrel
     cases gk with
     | zero => exact absurd HA.out (by simp [fastjson_validateObject.l0])
     | succ k1 =>
      have H := HA.out
      clear HA
      simp only [fastjson_validateObject.l0] at H
      replace H := Option.bind_eq_some_iff.mp H
      obtain ⟨t135, A110, H⟩ := H
      replace H : (if (t135.size : Int) = 0 then (fastjson_validateObject.j1 k1 t135 true) else (if 0 < (t135.size : Int) then (fastjson_validateObject.j1 k1 t135 ((bt t135 0) != 34)) else (none))) = some (r1, r2) := H
      have A11 := Aside0.mk A110
      clear A110
      have HC12 := Aside0.mk H
      clear H
      go_upto_region 8 with (first | ((with_reducible refine gate_callee (f := 35) rfl ?_); refine goesL_ (some 20) rfl rfl Tryd.func35 (by kernel_rfl) rfl #[.string x0_1] rfl (by (try simp only [List.map_toArray, List.map_cons, List.map_nil]); first | done | rfl | (simp only [List.length_drop, List.length_take]; rfl)) ?_; (with_reducible refine (fastjson_skipWS.calls k1 x0_1 t135 _ A11.out).mono ?_); rintro e w' ⟨rfl, ⟨nd, rfl⟩⟩; refine ⟨_, rfl, ?_⟩))
      (try simp only [Act.put, List.setIfInBounds_toArray, List.set_cons_zero, List.set_cons_succ])
      go_cut [28] (fun v28 wc => ∃ (kq : Nat) (x28_11 : Bool), v28 = .bool x28_11 ∧ Aside0 (fastjson_validateObject.j1 kq t135 x28_11 = some (r1, r2)) ∧ Aside0 (kq ≤ k1) ∧ Aside0 (Below w.heap.size w wc))
      case first =>
       have H := HC12.out
       clear HC12
       by_cases c13 : (t135.size : Int) = 0
       ·
        rw [if_pos c13] at H
        have c13b0 : ((t135.size : Int) == 0) = true := beq_iff_eq.mpr c13
        have c13b1 : ((t135.size : Int) != 0) = false := bne_eq_false_iff_eq.mpr c13
        clear c13
        (first | rw [c13b0] | (simp only [i64_w, i32_w]; rw [c13b0]) | rw [c13b1] | skip)
        have H' := Aside0.mk H
        clear H
        go_wp2
        go_meet
        case rel => exact ⟨_, (true), (by first | rfl | (simp; done) | (simp [nil_ne_, nil_eq_]; done) | (simp [*]; done)), H', ⟨by have := HK1.out; first | omega | exact Nat.le_refl _⟩, ⟨by repeat (first | (with_reducible first | exact HB.out | apply below_alloc | apply pw_below_drewN | apply below_drew1) | exact HB.out)⟩⟩
       ·
        rw [if_neg c13] at H
        have c13b0 : ((t135.size : Int) == 0) = false := beq_eq_false_iff_ne.mpr c13
        have c13b1 : ((t135.size : Int) != 0) = true := bne_iff_ne.mpr c13
        (first | rw [c13b0] | (simp only [i64_w, i32_w]; rw [c13b0]) | rw [c13b1] | skip)
        by_cases c14 : 0 < (t135.size : Int)
        ·
         rw [if_pos c14] at H
         have c14b0 : decide (0 < (t135.size : Int)) = true := decide_eq_true c14
         have c14b1 : decide (0 < t135.size) = true := decide_eq_true (by omega)
         clear c14
         have H' := Aside0.mk H
         clear H
         have p15 : 0 ≤ (0 : Int) := (by omega)
         have q15 : 0 < t135.size := (by have : (0 : Int) < (t135.size : Int) := of_decide_eq_true (by first | (with_reducible assumption) | assumption); omega)
         have hx15 := bt_lit t135 0 0 rfl
         clear p15
         have qi15 : (0 < (t135.size : Int)) = True := eq_true (of_decide_eq_true (by first | (with_reducible assumption) | assumption))
         replace q15 := eq_true q15
         go_wp2
         go_meet
         case rel => exact ⟨_, (((bt t135 0) != 34)), (by first | rfl | (simp; done) | (simp [nil_ne_, nil_eq_]; done) | (simp [*]; done)), H', ⟨by have := HK1.out; first | omega | exact Nat.le_refl _⟩, ⟨by repeat (first | (with_reducible first | exact HB.out | apply below_alloc | apply pw_below_drewN | apply below_drew1) | exact HB.out)⟩⟩
        ·
         rw [if_neg c14] at H
         exact absurd H (by simp)
      case rest =>
       clear HC12
       try clear c1
       try clear p1
       try clear q1
       try clear hx1
       try clear qi1
       try clear p2
       try clear c3
       try clear c3b0
       try clear c3b1
       try clear c6
       try clear c6b0
       try clear c6b1
       try clear p7
       try clear q7
       try clear hx7
       try clear qi7
       try clear c8
       try clear c8b0
       try clear c8b1
       try clear c9
       try clear c9b0
       try clear c9b1
       try clear c13
       try clear c13b0
       try clear c13b1
       try clear c14
       try clear c14b0
       try clear c14b1
       try clear p15
       try clear q15
       try clear hx15
       try clear qi15
       try clear p15
       try clear p2
       try clear p7
       try clear q15
       try clear q7
       obtain ⟨kq, x28_11, rfl, HA, HJ11, HB⟩ := hcut
       cases kq with
       | zero => exact absurd HA.out (by simp [fastjson_validateObject.j1])
       | succ kj11 =>
        have H := HA.out
        clear HA
        simp only [fastjson_validateObject.j1] at H
        by_cases c16 : x28_11 = true
        ·
         subst c16
         have H1 : ((errors_New.f (⟨#[99, 97, 110, 110, 111, 116, 32, 102, 105, 110, 100, 32, 111, 112, 101, 110, 105, 110, 103, 32, 39, 34, 34, 32, 102, 111, 114, 32, 111, 98, 106, 101, 99, 116, 32, 107, 101, 121]⟩ : ByteArray)).bind fun t136 => (some (t135, t136))) = some (r1, r2) := by rw [if_pos rfl] at H; exact H
         clear H
         have H := H1
         clear H1
         replace H := Option.bind_eq_some_iff.mp H
         obtain ⟨t136, A170, H⟩ := H
         replace H : (some (t135, t136)) = some (r1, r2) := H
         have A17 := Aside0.mk A170
         clear A170
         simp only [Option.some.injEq, Prod.mk.injEq] at H
         obtain ⟨rfl, rfl⟩ := H
         go_wp2_with (first | ((with_reducible refine gate_callee (f := 37) rfl ?_); refine goesL_ (some 30) rfl rfl Tryd.func37 (by kernel_rfl) rfl #[.string (⟨#[99, 97, 110, 110, 111, 116, 32, 102, 105, 110, 100, 32, 111, 112, 101, 110, 105, 110, 103, 32, 39, 34, 34, 32, 102, 111, 114, 32, 111, 98, 106, 101, 99, 116, 32, 107, 101, 121]⟩ : ByteArray)] rfl (by (try simp only [List.map_toArray, List.map_cons, List.map_nil]); first | done | rfl | (simp only [List.length_drop, List.length_take]; rfl)) ?_; (with_reducible refine (errors_New.calls (⟨#[99, 97, 110, 110, 111, 116, 32, 102, 105, 110, 100, 32, 111, 112, 101, 110, 105, 110, 103, 32, 39, 34, 34, 32, 102, 111, 114, 32, 111, 98, 106, 101, 99, 116, 32, 107, 101, 121]⟩ : ByteArray) t136 _ A17.out).mono ?_); rintro e w18 ⟨evt136, rfl, hb⟩; refine ⟨_, rfl, ?_⟩; have n0_ := Aside0.mk (below_step (by repeat (first | (with_reducible first | exact HB.out | apply below_alloc | apply pw_below_drewN | apply below_drew1) | exact HB.out)) hb); clear HB; have HB := n0_; clear n0_; (try clear hb); (try clear hb2); (try clear hk); (try clear hi); (try simp only [errX_none, errX_some])))
         go_ret2
         first | exact ⟨evt136, by first | rfl | (simp [errX_none, errX_some] <;> rfl) | (simp [*, errX_none, errX_some] <;> rfl), by repeat (first | (with_reducible first | exact HB.out | apply below_alloc | apply pw_below_drewN | apply below_drew1) | exact HB.out)⟩ | exact ⟨⟨(evt136).1, (evt136).2, by first | rfl | (simp [errX_none, errX_some] <;> rfl) | (simp [*, errX_none, errX_some] <;> rfl)⟩, by repeat (first | (with_reducible first | exact HB.out | apply below_alloc | apply pw_below_drewN | apply below_drew1) | exact HB.out)⟩
        ·
         replace c16 := Bool.eq_false_iff.mpr c16
         subst c16
         have H1 : (if 1 ≤ (t135.size : Int) then ((fastjson_validateKey.f kj11 (t135.extract 1 t135.size)).bind fun bt137 => (if bt137.2.2.isNone = true then (fastjson_validateObject.l1 kj11 bt137.2.1 bt137.1 (bt137.1.size : Int) 0) else ((errors_New.f (⟨#[99, 97, 110, 110, 111, 116, 32, 112, 97, 114, 115, 101, 32, 111, 98, 106, 101, 99, 116, 32, 107, 101, 121]⟩ : ByteArray)).bind fun t152 => (some (bt137.2.1, t152))))) else (none)) = some (r1, r2) := by rw [if_neg (show ¬ (false = true) by decide)] at H; exact H
         clear H
         have H := H1
         clear H1
         by_cases c19 : 1 ≤ (t135.size : Int)
         ·
          rw [if_pos c19] at H
          have c19b0 := eq_true c19
          have c19b1 : decide (1 ≤ (t135.size : Int)) = true := decide_eq_true c19
          clear c19
          obtain ⟨js20, hjs20⟩ : ∃ j_ : ByteArray, (t135.extract 1 t135.size) = j_ := ⟨_, rfl⟩
          skip
          replace H : ((fastjson_validateKey.f kj11 js20).bind fun bt137 => (if bt137.2.2.isNone = true then (fastjson_validateObject.l1 kj11 bt137.2.1 bt137.1 (bt137.1.size : Int) 0) else ((errors_New.f (⟨#[99, 97, 110, 110, 111, 116, 32, 112, 97, 114, 115, 101, 32, 111, 98, 106, 101, 99, 116, 32, 107, 101, 121]⟩ : ByteArray)).bind fun t152 => (some (bt137.2.1, t152))))) = some (r1, r2) := by first | (rw [hjs20] at H; exact H) | (simp only [hjs20] at H ⊢; exact H)
          replace H := Option.bind_eq_some_iff.mp H
          obtain ⟨⟨t137, t138, t139⟩, A210, H⟩ := H
          replace H : (if t139.isNone = true then (fastjson_validateObject.l1 kj11 t138 t137 (t137.size : Int) 0) else ((errors_New.f (⟨#[99, 97, 110, 110, 111, 116, 32, 112, 97, 114, 115, 101, 32, 111, 98, 106, 101, 99, 116, 32, 107, 101, 121]⟩ : ByteArray)).bind fun t152 => (some (t138, t152)))) = some (r1, r2) := H
          have A21 := Aside0.mk A210
          clear A210
          rcases t139 with _ | q140
          ·
           have H1 : (fastjson_validateObject.l1 kj11 t138 t137 (t137.size : Int) 0) = some (r1, r2) := by rw [if_pos (show (none : Option Int).isNone = true by rfl)] at H; exact H
           clear H
           have H := H1
           clear H1
           try simp only [errX_none, errX_some]
           have H' := Aside0.mk H
           clear H
           go_wp2_with (first | ((with_reducible refine gate_callee (f := 53) rfl ?_); refine goesL_ (some 34) rfl rfl Tryd.func53 (by kernel_rfl) rfl #[.string js20] rfl (by (try simp only [List.map_toArray, List.map_cons, List.map_nil]); first | done | rfl | (simp only [List.length_drop, List.length_take]; rfl)) ?_; (with_reducible refine (fastjson_validateKey.calls kj11 js20 t137 t138 none _ A21.out (HG.out.below (by repeat (first | (with_reducible first | exact HB.out | apply below_alloc | apply pw_below_drewN | apply below_drew1) | exact HB.out)))).mono ?_); rintro e w22 ⟨evz_, rfl, hb⟩; refine ⟨_, rfl, ?_⟩; have n0_ := Aside0.mk (below_step (by repeat (first | (with_reducible first | exact HB.out | apply below_alloc | apply pw_below_drewN | apply below_drew1) | exact HB.out)) hb); clear HB; have HB := n0_; clear n0_; (try clear hb); (try clear hb2); (try clear hk); (try clear hi); (try simp only [errX_none, errX_some])))
           try simp only [Act.put, List.setIfInBounds_toArray, List.set_cons_succ, List.set_cons_zero]
           go_loopg [44] kj11 (fun kq v44 w' => ∃ (x44_3 : Int), v44 = .int .i64 x44_3 ∧ Aside0 (fastjson_validateObject.l1 kq t138 t137 (t137.size : Int) x44_3 = some (r1, r2)) ∧ Aside0 (kq ≤ kj11) ∧ Aside0 (Below w.heap.size w w'))
           case atStart => exact ⟨(0), (by first | rfl | (simp; done) | (simp [nil_ne_, nil_eq_]; done) | (simp [*]; done)), H', ⟨Nat.le_refl _⟩, ⟨by repeat (first | (with_reducible first | exact HB.out | apply below_alloc | apply pw_below_drewN | apply below_drew1) | exact HB.out)⟩⟩
           case round =>
            clear H'
            try clear c1
            try clear p1
            try clear q1
            try clear hx1
            try clear qi1
            try clear p2
            try clear c3
            try clear c3b0
            try clear c3b1
            try clear c5
            try clear c6
            try clear c6b0
            try clear c6b1
            try clear p7
            try clear q7
            try clear hx7
            try clear qi7
            try clear c8
            try clear c8b0
            try clear c8b1
            try clear c9
            try clear c9b0
            try clear c9b1
            try clear c13
            try clear c13b0
            try clear c13b1
            try clear c14
            try clear c14b0
            try clear c14b1
            try clear q14
            try clear p15
            try clear q15
            try clear hx15
            try clear qi15
            try clear c16
            try clear c19
            try clear c19b0
            try clear c19b1
            try clear p1
            try clear p15
            try clear p2
            try clear p7
            try clear q1
            try clear q140
            try clear q15
            try clear q7
            obtain ⟨x44_3, rfl, HA, HK3, HB⟩ := hrel
            cases gk with
            | zero => exact absurd HA.out (by simp [fastjson_validateObject.l1])
            | succ k3 =>
             have H := HA.out
             clear HA
             simp only [fastjson_validateObject.l1] at H
             by_cases c23 : x44_3 < (t137.size : Int)
             ·
              rw [if_pos c23] at H
              have c23b0 : decide (x44_3 < (t137.size : Int)) = true := decide_eq_true c23
              clear c23
              by_cases c24 : 0 ≤ x44_3
              ·
               rw [if_pos c24] at H
               have c24b0 : decide (0 ≤ x44_3) = true := decide_eq_true c24
               clear c24
               by_cases c25 : x44_3 < (t137.size : Int)
               ·
                rw [if_pos c25] at H
                have c25b0 : decide (x44_3 < (t137.size : Int)) = true := decide_eq_true c25
                clear c25
                by_cases c27 : (bt t137 x44_3) < 32
                ·
                 rw [if_pos c27] at H
                 have c27b0 : decide ((bt t137 x44_3) < 32) = true := decide_eq_true c27
                 clear c27
                 replace H := Option.bind_eq_some_iff.mp H
                 obtain ⟨t141, A280, H⟩ := H
                 replace H : (some (t138, t141)) = some (r1, r2) := H
                 have A28 := Aside0.mk A280
                 clear A280
                 simp only [Option.some.injEq, Prod.mk.injEq] at H
                 obtain ⟨rfl, rfl⟩ := H
                 have p26 : 0 ≤ (x44_3 : Int) := of_decide_eq_true (by first | (with_reducible assumption) | assumption)
                 have q26 : x44_3 < (t137.size : Int) := of_decide_eq_true (by first | (with_reducible assumption) | assumption)
                 have hx26 := bt_at t137 x44_3
                 replace p26 := eq_true p26
                 replace q26 := eq_true q26
                 go_wp2_with (first | ((with_reducible refine gate_callee (f := 37) rfl ?_); refine goesL_ (some 52) rfl rfl Tryd.func37 (by kernel_rfl) rfl #[.string (⟨#[111, 98, 106, 101, 99, 116, 32, 107, 101, 121, 32, 99, 97, 110, 110, 111, 116, 32, 99, 111, 110, 116, 97, 105, 110, 32, 99, 111, 110, 116, 114, 111, 108, 32, 99, 104, 97, 114, 32, 48, 120]⟩ : ByteArray)] rfl (by (try simp only [List.map_toArray, List.map_cons, List.map_nil]); first | done | rfl | (simp only [List.length_drop, List.length_take]; rfl)) ?_; (with_reducible refine (errors_New.calls (⟨#[111, 98, 106, 101, 99, 116, 32, 107, 101, 121, 32, 99, 97, 110, 110, 111, 116, 32, 99, 111, 110, 116, 97, 105, 110, 32, 99, 111, 110, 116, 114, 111, 108, 32, 99, 104, 97, 114, 32, 48, 120]⟩ : ByteArray) t141 _ A28.out).mono ?_); rintro e w29 ⟨evt141, rfl, hb⟩; refine ⟨_, rfl, ?_⟩; have n0_ := Aside0.mk (below_step (by repeat (first | (with_reducible first | exact HB.out | apply below_alloc | apply pw_below_drewN | apply below_drew1) | exact HB.out)) hb); clear HB; have HB := n0_; clear n0_; (try clear hb); (try clear hb2); (try clear hk); (try clear hi); (try simp only [errX_none, errX_some])))
                 go_ret2
                 first | exact ⟨evt141, by first | rfl | (simp [errX_none, errX_some] <;> rfl) | (simp only [← hjs20]; first | rfl | (simp [errX_none, errX_some] <;> rfl)) | (simp [*, errX_none, errX_some] <;> rfl), by repeat (first | (with_reducible first | exact HB.out | apply below_alloc | apply pw_below_drewN | apply below_drew1) | exact HB.out)⟩ | exact ⟨⟨(evt141).1, (evt141).2, by first | rfl | (simp [errX_none, errX_some] <;> rfl) | (simp only [← hjs20]; first | rfl | (simp [errX_none, errX_some] <;> rfl)) | (simp [*, errX_none, errX_some] <;> rfl)⟩, by repeat (first | (with_reducible first | exact HB.out | apply below_alloc | apply pw_below_drewN | apply below_drew1) | exact HB.out)⟩
                ·
                 rw [if_neg c27] at H
                 have c27b0 : decide ((bt t137 x44_3) < 32) = false := decide_eq_false c27
                 clear c27
                 have H' := Aside0.mk H
                 clear H
                 have p26 : 0 ≤ (x44_3 : Int) := of_decide_eq_true (by first | (with_reducible assumption) | assumption)
                 have q26 : x44_3 < (t137.size : Int) := of_decide_eq_true (by first | (with_reducible assumption) | assumption)
                 have hx26 := bt_at t137 x44_3
                 replace p26 := eq_true p26
                 replace q26 := eq_true q26
                 go_wp2
                 go_roundg k3
                 case measure => have := HK1.out; have := HJ11.out; have := HK3.out; omega
                 case rel => exact ⟨(wrap64 (x44_3 + 1)), (by first | rfl | (simp; done) | (simp [nil_ne_, nil_eq_]; done) | (simp [*]; done)), (by first | exact H' | (rw [hjs20]; exact H') | (simp only [hjs20]; exact H') | (simp only [hjs20] at H' ⊢; exact H')), ⟨by have := HK1.out; have := HJ11.out; have := HK3.out; omega⟩, ⟨by repeat (first | (with_reducible first | exact HB.out | apply below_alloc | apply pw_below_drewN | apply below_drew1) | exact HB.out)⟩⟩
               ·
                rw [if_neg c25] at H
                exact absurd H (by simp)
              ·
               rw [if_neg c24] at H
               exact absurd H (by simp)
             ·
              rw [if_neg c23] at H
              have c23b0 : decide (x44_3 < (t137.size : Int)) = false := decide_eq_false c23
              clear c23
              replace H := Option.bind_eq_some_iff.mp H
              obtain ⟨t142, A300, H⟩ := H
              replace H : (if (t142.size : Int) = 0 then (fastjson_validateObject.j3 k3 t142 true) else (if 0 < (t142.size : Int) then (fastjson_validateObject.j3 k3 t142 ((bt t142 0) != 58)) else (none))) = some (r1, r2) := H
              have A30 := Aside0.mk A300
              clear A300
              have HC31 := Aside0.mk H
              clear H
              go_upto_region 21 with (first | ((with_reducible refine gate_callee (f := 35) rfl ?_); refine goesL_ (some 55) rfl rfl Tryd.func35 (by kernel_rfl) rfl #[.string t138] rfl (by (try simp only [List.map_toArray, List.map_cons, List.map_nil]); first | done | rfl | (simp only [List.length_drop, List.length_take]; rfl)) ?_; (with_reducible refine (fastjson_skipWS.calls k3 t138 t142 _ A30.out).mono ?_); rintro e w' ⟨rfl, ⟨nd, rfl⟩⟩; refine ⟨_, rfl, ?_⟩))
              (try simp only [Act.put, List.setIfInBounds_toArray, List.set_cons_zero, List.set_cons_succ])
              go_cut [63] (fun v63 wc => ∃ (kq : Nat) (x63_30 : Bool), v63 = .bool x63_30 ∧ Aside0 (fastjson_validateObject.j3 kq t142 x63_30 = some (r1, r2)) ∧ Aside0 (kq ≤ k3) ∧ Aside0 (Below w.heap.size w wc))
              case first =>
               have H := HC31.out
               clear HC31
               by_cases c32 : (t142.size : Int) = 0
               ·
                rw [if_pos c32] at H
                have c32b0 : ((t142.size : Int) == 0) = true := beq_iff_eq.mpr c32
                have c32b1 : ((t142.size : Int) != 0) = false := bne_eq_false_iff_eq.mpr c32
                clear c32
                (first | rw [c32b0] | (simp only [i64_w, i32_w]; rw [c32b0]) | rw [c32b1] | skip)
                have H' := Aside0.mk H
                clear H
                go_wp2
                go_meet
                case rel => exact ⟨_, (true), (by first | rfl | (simp; done) | (simp [nil_ne_, nil_eq_]; done) | (simp [*]; done)), (by first | exact H' | (rw [hjs20]; exact H') | (simp only [hjs20]; exact H') | (simp only [hjs20] at H' ⊢; exact H')), ⟨by have := HK1.out; have := HJ11.out; have := HK3.out; first | omega | exact Nat.le_refl _⟩, ⟨by repeat (first | (with_reducible first | exact HB.out | apply below_alloc | apply pw_below_drewN | apply below_drew1) | exact HB.out)⟩⟩
               ·
                rw [if_neg c32] at H
                have c32b0 : ((t142.size : Int) == 0) = false := beq_eq_false_iff_ne.mpr c32
                have c32b1 : ((t142.size : Int) != 0) = true := bne_iff_ne.mpr c32
                (first | rw [c32b0] | (simp only [i64_w, i32_w]; rw [c32b0]) | rw [c32b1] | skip)
                by_cases c33 : 0 < (t142.size : Int)
                ·
                 rw [if_pos c33] at H
                 have c33b0 : decide (0 < (t142.size : Int)) = true := decide_eq_true c33
                 have c33b1 : decide (0 < t142.size) = true := decide_eq_true (by omega)
                 clear c33
                 have H' := Aside0.mk H
                 clear H
                 have p34 : 0 ≤ (0 : Int) := (by omega)
                 have q34 : 0 < t142.size := (by have : (0 : Int) < (t142.size : Int) := of_decide_eq_true (by first | (with_reducible assumption) | assumption); omega)
                 have hx34 := bt_lit t142 0 0 rfl
                 clear p34
                 have qi34 : (0 < (t142.size : Int)) = True := eq_true (of_decide_eq_true (by first | (with_reducible assumption) | assumption))
                 replace q34 := eq_true q34
                 go_wp2
                 go_meet
                 case rel => exact ⟨_, (((bt t142 0) != 58)), (by first | rfl | (simp; done) | (simp [nil_ne_, nil_eq_]; done) | (simp [*]; done)), (by first | exact H' | (rw [hjs20]; exact H') | (simp only [hjs20]; exact H') | (simp only [hjs20] at H' ⊢; exact H')), ⟨by have := HK1.out; have := HJ11.out; have := HK3.out; first | omega | exact Nat.le_refl _⟩, ⟨by repeat (first | (with_reducible first | exact HB.out | apply below_alloc | apply pw_below_drewN | apply below_drew1) | exact HB.out)⟩⟩
                ·
                 rw [if_neg c33] at H
                 exact absurd H (by simp)
              case rest =>
               clear HC31
               try clear c1
               try clear p1
               try clear q1
               try clear hx1
               try clear qi1
               try clear c2
               try clear p2
               try clear q2
               try clear hx2
               try clear c3
               try clear c3b0
               try clear c3b1
               try clear p3
               try clear q3
               try clear hx3
               try clear qi3
               try clear c5
               try clear c6
               try clear c6b0
               try clear c6b1
               try clear p6
               try clear p7
               try clear q7
               try clear hx7
               try clear qi7
               try clear c8
               try clear c8b0
               try clear c8b1
               try clear c9
               try clear c9b0
               try clear c9b1
               try clear c13
               try clear c13b0
               try clear c13b1
               try clear c14
               try clear c14b0
               try clear c14b1
               try clear q14
               try clear p15
               try clear q15
               try clear hx15
               try clear qi15
               try clear c16
               try clear c19
               try clear c19b0
               try clear c19b1
               try clear c23
               try clear c23b0
               try clear c24
               try clear c24b0
               try clear c25
               try clear c25b0
               try clear p26
               try clear q26
               try clear hx26
               try clear c27
               try clear c27b0
               try clear c32
               try clear c32b0
               try clear c32b1
               try clear c33
               try clear c33b0
               try clear c33b1
               try clear c34
               try clear p34
               try clear q34
               try clear hx34
               try clear qi34
               try clear p1
               try clear p15
               try clear p2
               try clear p26
               try clear p34
               try clear p7
               try clear q1
               try clear q14
               try clear q140
               try clear q15
               try clear q26
               try clear q34
               try clear q7
               obtain ⟨kq, x63_30, rfl, HA, HJ30, HB⟩ := hcut
               cases kq with
               | zero => exact absurd HA.out (by simp [fastjson_validateObject.j3])
               | succ kj30 =>
                have H := HA.out
                clear HA
                simp only [fastjson_validateObject.j3] at H
                by_cases c35 : x63_30 = true
                ·
                 subst c35
                 have H1 : ((errors_New.f (⟨#[109, 105, 115, 115, 105, 110, 103, 32, 39, 58, 39, 32, 97, 102, 116, 101, 114, 32, 111, 98, 106, 101, 99, 116, 32, 107, 101, 121]⟩ : ByteArray)).bind fun t143 => (some (t142, t143))) = some (r1, r2) := by rw [if_pos rfl] at H; exact H
                 clear H
                 have H := H1
                 clear H1
                 replace H := Option.bind_eq_some_iff.mp H
                 obtain ⟨t143, A360, H⟩ := H
                 replace H : (some (t142, t143)) = some (r1, r2) := H
                 have A36 := Aside0.mk A360
                 clear A360
                 simp only [Option.some.injEq, Prod.mk.injEq] at H
                 obtain ⟨rfl, rfl⟩ := H
                 go_wp2_with (first | ((with_reducible refine gate_callee (f := 37) rfl ?_); refine goesL_ (some 65) rfl rfl Tryd.func37 (by kernel_rfl) rfl #[.string (⟨#[109, 105, 115, 115, 105, 110, 103, 32, 39, 58, 39, 32, 97, 102, 116, 101, 114, 32, 111, 98, 106, 101, 99, 116, 32, 107, 101, 121]⟩ : ByteArray)] rfl (by (try simp only [List.map_toArray, List.map_cons, List.map_nil]); first | done | rfl | (simp only [List.length_drop, List.length_take]; rfl)) ?_; (with_reducible refine (errors_New.calls (⟨#[109, 105, 115, 115, 105, 110, 103, 32, 39, 58, 39, 32, 97, 102, 116, 101, 114, 32, 111, 98, 106, 101, 99, 116, 32, 107, 101, 121]⟩ : ByteArray) t143 _ A36.out).mono ?_); rintro e w37 ⟨evt143, rfl, hb⟩; refine ⟨_, rfl, ?_⟩; have n0_ := Aside0.mk (below_step (by repeat (first | (with_reducible first | exact HB.out | apply below_alloc | apply pw_below_drewN | apply below_drew1) | exact HB.out)) hb); clear HB; have HB := n0_; clear n0_; (try clear hb); (try clear hb2); (try clear hk); (try clear hi); (try simp only [errX_none, errX_some])))
                 go_ret2
                 first | exact ⟨evt143, by first | rfl | (simp [errX_none, errX_some] <;> rfl) | (simp only [← hjs20]; first | rfl | (simp [errX_none, errX_some] <;> rfl)) | (simp [*, errX_none, errX_some] <;> rfl), by repeat (first | (with_reducible first | exact HB.out | apply below_alloc | apply pw_below_drewN | apply below_drew1) | exact HB.out)⟩ | exact ⟨⟨(evt143).1, (evt143).2, by first | rfl | (simp [errX_none, errX_some] <;> rfl) | (simp only [← hjs20]; first | rfl | (simp [errX_none, errX_some] <;> rfl)) | (simp [*, errX_none, errX_some] <;> rfl)⟩, by repeat (first | (with_reducible first | exact HB.out | apply below_alloc | apply pw_below_drewN | apply below_drew1) | exact HB.out)⟩
                ·
                 replace c35 := Bool.eq_false_iff.mpr c35
                 subst c35
                 have H1 : (if 1 ≤ (t142.size : Int) then ((fastjson_skipWS.f kj30 (t142.extract 1 t142.size)).bind fun t144 => ((fastjson_validateValue.f kj30 t144).bind fun bt145 => (if bt145.2.isNone = true then ((fastjson_skipWS.f kj30 bt145.1).bind fun t148 => (if (t148.size : Int) = 0 then ((errors_New.f (⟨#[117, 110, 101, 120, 112, 101, 99, 116, 101, 100, 32, 101, 110, 100, 32, 111, 102, 32, 111, 98, 106, 101, 99, 116]⟩ : ByteArray)).bind fun t149 => (some (t148, t149))) else (if 0 < (t148.size : Int) then (if (bt t148 0) = 44 then (if 1 ≤ (t148.size : Int) then (fastjson_validateObject.l0 kj30 (t148.extract 1 t148.size)) else (none)) else (if (bt t148 0) = 125 then (if 1 ≤ (t148.size : Int) then (some (t148.extract 1 t148.size, none)) else (none)) else ((errors_New.f (⟨#[109, 105, 115, 115, 105, 110, 103, 32, 39, 44, 39, 32, 97, 102, 116, 101, 114, 32, 111, 98, 106, 101, 99, 116, 32, 118, 97, 108, 117, 101]⟩ : ByteArray)).bind fun t150 => (some (t148, t150))))) else (none)))) else ((errors_New.f (⟨#[99, 97, 110, 110, 111, 116, 32, 112, 97, 114, 115, 101, 32, 111, 98, 106, 101, 99, 116, 32, 118, 97, 108, 117, 101]⟩ : ByteArray)).bind fun t151 => (some (bt145.1, t151)))))) else (none)) = some (r1, r2) := by rw [if_neg (show ¬ (false = true) by decide)] at H; exact H
                 clear H
                 have H := H1
                 clear H1
                 by_cases c38 : 1 ≤ (t142.size : Int)
                 ·
                  rw [if_pos c38] at H
                  have c38b0 := eq_true c38
                  have c38b1 : decide (1 ≤ (t142.size : Int)) = true := decide_eq_true c38
                  clear c38
                  obtain ⟨js39, hjs39⟩ : ∃ j_ : ByteArray, (t142.extract 1 t142.size) = j_ := ⟨_, rfl⟩
                  skip
                  replace H : ((fastjson_skipWS.f kj30 js39).bind fun t144 => ((fastjson_validateValue.f kj30 t144).bind fun bt145 => (if bt145.2.isNone = true then ((fastjson_skipWS.f kj30 bt145.1).bind fun t148 => (if (t148.size : Int) = 0 then ((errors_New.f (⟨#[117, 110, 101, 120, 112, 101, 99, 116, 101, 100, 32, 101, 110, 100, 32, 111, 102, 32, 111, 98, 106, 101, 99, 116]⟩ : ByteArray)).bind fun t149 => (some (t148, t149))) else (if 0 < (t148.size : Int) then (if (bt t148 0) = 44 then (if 1 ≤ (t148.size : Int) then (fastjson_validateObject.l0 kj30 (t148.extract 1 t148.size)) else (none)) else (if (bt t148 0) = 125 then (if 1 ≤ (t148.size : Int) then (some (t148.extract 1 t148.size, none)) else (none)) else ((errors_New.f (⟨#[109, 105, 115, 115, 105, 110, 103, 32, 39, 44, 39, 32, 97, 102, 116, 101, 114, 32, 111, 98, 106, 101, 99, 116, 32, 118, 97, 108, 117, 101]⟩ : ByteArray)).bind fun t150 => (some (t148, t150))))) else (none)))) else ((errors_New.f (⟨#[99, 97, 110, 110, 111, 116, 32, 112, 97, 114, 115, 101, 32, 111, 98, 106, 101, 99, 116, 32, 118, 97, 108, 117, 101]⟩ : ByteArray)).bind fun t151 => (some (bt145.1, t151)))))) = some (r1, r2) := by first | (rw [hjs39] at H; exact H) | (simp only [hjs39] at H ⊢; exact H)
                  replace H := Option.bind_eq_some_iff.mp H
                  obtain ⟨t144, A400, H⟩ := H
                  replace H : ((fastjson_validateValue.f kj30 t144).bind fun bt145 => (if bt145.2.isNone = true then ((fastjson_skipWS.f kj30 bt145.1).bind fun t148 => (if (t148.size : Int) = 0 then ((errors_New.f (⟨#[117, 110, 101, 120, 112, 101, 99, 116, 101, 100, 32, 101, 110, 100, 32, 111, 102, 32, 111, 98, 106, 101, 99, 116]⟩ : ByteArray)).bind fun t149 => (some (t148, t149))) else (if 0 < (t148.size : Int) then (if (bt t148 0) = 44 then (if 1 ≤ (t148.size : Int) then (fastjson_validateObject.l0 kj30 (t148.extract 1 t148.size)) else (none)) else (if (bt t148 0) = 125 then (if 1 ≤ (t148.size : Int) then (some (t148.extract 1 t148.size, none)) else (none)) else ((errors_New.f (⟨#[109, 105, 115, 115, 105, 110, 103, 32, 39, 44, 39, 32, 97, 102, 116, 101, 114, 32, 111, 98, 106, 101, 99, 116, 32, 118, 97, 108, 117, 101]⟩ : ByteArray)).bind fun t150 => (some (t148, t150))))) else (none)))) else ((errors_New.f (⟨#[99, 97, 110, 110, 111, 116, 32, 112, 97, 114, 115, 101, 32, 111, 98, 106, 101, 99, 116, 32, 118, 97, 108, 117, 101]⟩ : ByteArray)).bind fun t151 => (some (bt145.1, t151))))) = some (r1, r2) := H
                  have A40 := Aside0.mk A400
                  clear A400
                  replace H := Option.bind_eq_some_iff.mp H
                  obtain ⟨⟨t145, t146⟩, A410, H⟩ := H
                  replace H : (if t146.isNone = true then ((fastjson_skipWS.f kj30 t145).bind fun t148 => (if (t148.size : Int) = 0 then ((errors_New.f (⟨#[117, 110, 101, 120, 112, 101, 99, 116, 101, 100, 32, 101, 110, 100, 32, 111, 102, 32, 111, 98, 106, 101, 99, 116]⟩ : ByteArray)).bind fun t149 => (some (t148, t149))) else (if 0 < (t148.size : Int) then (if (bt t148 0) = 44 then (if 1 ≤ (t148.size : Int) then (fastjson_validateObject.l0 kj30 (t148.extract 1 t148.size)) else (none)) else (if (bt t148 0) = 125 then (if 1 ≤ (t148.size : Int) then (some (t148.extract 1 t148.size, none)) else (none)) else ((errors_New.f (⟨#[109, 105, 115, 115, 105, 110, 103, 32, 39, 44, 39, 32, 97, 102, 116, 101, 114, 32, 111, 98, 106, 101, 99, 116, 32, 118, 97, 108, 117, 101]⟩ : ByteArray)).bind fun t150 => (some (t148, t150))))) else (none)))) else ((errors_New.f (⟨#[99, 97, 110, 110, 111, 116, 32, 112, 97, 114, 115, 101, 32, 111, 98, 106, 101, 99, 116, 32, 118, 97, 108, 117, 101]⟩ : ByteArray)).bind fun t151 => (some (t145, t151)))) = some (r1, r2) := H
                  have A41 := Aside0.mk A410
                  clear A410
                  rcases t146 with _ | q147
                  ·
                   have H1 : ((fastjson_skipWS.f kj30 t145).bind fun t148 => (if (t148.size : Int) = 0 then ((errors_New.f (⟨#[117, 110, 101, 120, 112, 101, 99, 116, 101, 100, 32, 101, 110, 100, 32, 111, 102, 32, 111, 98, 106, 101, 99, 116]⟩ : ByteArray)).bind fun t149 => (some (t148, t149))) else (if 0 < (t148.size : Int) then (if (bt t148 0) = 44 then (if 1 ≤ (t148.size : Int) then (fastjson_validateObject.l0 kj30 (t148.extract 1 t148.size)) else (none)) else (if (bt t148 0) = 125 then (if 1 ≤ (t148.size : Int) then (some (t148.extract 1 t148.size, none)) else (none)) else ((errors_New.f (⟨#[109, 105, 115, 115, 105, 110, 103, 32, 39, 44, 39, 32, 97, 102, 116, 101, 114, 32, 111, 98, 106, 101, 99, 116, 32, 118, 97, 108, 117, 101]⟩ : ByteArray)).bind fun t150 => (some (t148, t150))))) else (none)))) = some (r1, r2) := by rw [if_pos (show (none : Option Int).isNone = true by rfl)] at H; exact H
                   clear H
                   have H := H1
                   clear H1
                   try simp only [errX_none, errX_some]
                   replace H := Option.bind_eq_some_iff.mp H
                   obtain ⟨t148, A420, H⟩ := H
                   replace H : (if (t148.size : Int) = 0 then ((errors_New.f (⟨#[117, 110, 101, 120, 112, 101, 99, 116, 101, 100, 32, 101, 110, 100, 32, 111, 102, 32, 111, 98, 106, 101, 99, 116]⟩ : ByteArray)).bind fun t149 => (some (t148, t149))) else (if 0 < (t148.size : Int) then (if (bt t148 0) = 44 then (if 1 ≤ (t148.size : Int) then (fastjson_validateObject.l0 kj30 (t148.extract 1 t148.size)) else (none)) else (if (bt t148 0) = 125 then (if 1 ≤ (t148.size : Int) then (some (t148.extract 1 t148.size, none)) else (none)) else ((errors_New.f (⟨#[109, 105, 115, 115, 105, 110, 103, 32, 39, 44, 39, 32, 97, 102, 116, 101, 114, 32, 111, 98, 106, 101, 99, 116, 32, 118, 97, 108, 117, 101]⟩ : ByteArray)).bind fun t150 => (some (t148, t150))))) else (none))) = some (r1, r2) := H
                   have A42 := Aside0.mk A420
                   clear A420
                   by_cases c43 : (t148.size : Int) = 0
                   ·
                    rw [if_pos c43] at H
                    have c43b0 : ((t148.size : Int) == 0) = true := beq_iff_eq.mpr c43
                    have c43b1 : ((t148.size : Int) != 0) = false := bne_eq_false_iff_eq.mpr c43
                    clear c43
                    replace H := Option.bind_eq_some_iff.mp H
                    obtain ⟨t149, A440, H⟩ := H
                    replace H : (some (t148, t149)) = some (r1, r2) := H
                    have A44 := Aside0.mk A440
                    clear A440
                    simp only [Option.some.injEq, Prod.mk.injEq] at H
                    obtain ⟨rfl, rfl⟩ := H
                    go_wp2_with (first | ((with_reducible refine gate_callee (f := 35) rfl ?_); refine goesL_ (some 69) rfl rfl Tryd.func35 (by kernel_rfl) rfl #[.string js39] rfl (by (try simp only [List.map_toArray, List.map_cons, List.map_nil]); first | done | rfl | (simp only [List.length_drop, List.length_take]; rfl)) ?_; (with_reducible refine (fastjson_skipWS.calls kj30 js39 t144 _ A40.out).mono ?_); rintro e w' ⟨rfl, ⟨nd, rfl⟩⟩; refine ⟨_, rfl, ?_⟩) | ((with_reducible refine gate_callee (f := 36) rfl ?_); refine goesL_ (some 72) rfl rfl Tryd.func36 (by kernel_rfl) rfl #[.string t144] rfl (by (try simp only [List.map_toArray, List.map_cons, List.map_nil]); first | done | rfl | (simp only [List.length_drop, List.length_take]; rfl)) ?_; (with_reducible refine (ih_fastjson_validateValue kj30 (by have := HK1.out; have := HJ11.out; have := HK3.out; have := HJ30.out; omega) t144 t145 none _ A41.out (HG.out.below (by repeat (first | (with_reducible first | exact HB.out | apply below_alloc | apply pw_below_drewN | apply below_drew1) | exact HB.out)))).mono ?_); rintro e w45 ⟨evz_, rfl, hb⟩; refine ⟨_, rfl, ?_⟩; have n0_ := Aside0.mk (below_step (by repeat (first | (with_reducible first | exact HB.out | apply below_alloc | apply pw_below_drewN | apply below_drew1) | exact HB.out)) hb); clear HB; have HB := n0_; clear n0_; (try clear hb); (try clear hb2); (try clear hk); (try clear hi); (try simp only [errX_none, errX_some])) | ((with_reducible refine gate_callee (f := 35) rfl ?_); refine goesL_ (some 80) rfl rfl Tryd.func35 (by kernel_rfl) rfl #[.string t145] rfl (by (try simp only [List.map_toArray, List.map_cons, List.map_nil]); first | done | rfl | (simp only [List.length_drop, List.length_take]; rfl)) ?_; (with_reducible refine (fastjson_skipWS.calls kj30 t145 t148 _ A42.out).mono ?_); rintro e w' ⟨rfl, ⟨nd, rfl⟩⟩; refine ⟨_, rfl, ?_⟩) | ((with_reducible refine gate_callee (f := 37) rfl ?_); refine goesL_ (some 85) rfl rfl Tryd.func37 (by kernel_rfl) rfl #[.string (⟨#[117, 110, 101, 120, 112, 101, 99, 116, 101, 100, 32, 101, 110, 100, 32, 111, 102, 32, 111, 98, 106, 101, 99, 116]⟩ : ByteArray)] rfl (by (try simp only [List.map_toArray, List.map_cons, List.map_nil]); first | done | rfl | (simp only [List.length_drop, List.length_take]; rfl)) ?_; (with_reducible refine (errors_New.calls (⟨#[117, 110, 101, 120, 112, 101, 99, 116, 101, 100, 32, 101, 110, 100, 32, 111, 102, 32, 111, 98, 106, 101, 99, 116]⟩ : ByteArray) t149 _ A44.out).mono ?_); rintro e w46 ⟨evt149, rfl, hb⟩; refine ⟨_, rfl, ?_⟩; have n0_ := Aside0.mk (below_step (by repeat (first | (with_reducible first | exact HB.out | apply below_alloc | apply pw_below_drewN | apply below_drew1) | exact HB.out)) hb); clear HB; have HB := n0_; clear n0_; (try clear hb); (try clear hb2); (try clear hk); (try clear hi); (try simp only [errX_none, errX_some])))
                    go_ret2
                    first | exact ⟨evt149, by first | rfl | (simp [errX_none, errX_some] <;> rfl) | (simp only [← hjs20, ← hjs39]; first | rfl | (simp [errX_none, errX_some] <;> rfl)) | (simp [*, errX_none, errX_some] <;> rfl), by repeat (first | (with_reducible first | exact HB.out | apply below_alloc | apply pw_below_drewN | apply below_drew1) | exact HB.out)⟩ | exact ⟨⟨(evt149).1, (evt149).2, by first | rfl | (simp [errX_none, errX_some] <;> rfl) | (simp only [← hjs20, ← hjs39]; first | rfl | (simp [errX_none, errX_some] <;> rfl)) | (simp [*, errX_none, errX_some] <;> rfl)⟩, by repeat (first | (with_reducible first | exact HB.out | apply below_alloc | apply pw_below_drewN | apply below_drew1) | exact HB.out)⟩
                   ·
                    rw [if_neg c43] at H
                    have c43b0 : ((t148.size : Int) == 0) = false := beq_eq_false_iff_ne.mpr c43
                    have c43b1 : ((t148.size : Int) != 0) = true := bne_iff_ne.mpr c43
                    by_cases c47 : 0 < (t148.size : Int)
                    ·
                     rw [if_pos c47] at H
                     have c47b0 : decide (0 < (t148.size : Int)) = true := decide_eq_true c47
                     have c47b1 : decide (0 < t148.size) = true := decide_eq_true (by omega)
                     clear c47
                     by_cases c49 : (bt t148 0) = 44
                     ·
                      rw [if_pos c49] at H
                      have c49b0 : ((bt t148 0) == 44) = true := beq_iff_eq.mpr c49
                      have c49b1 : ((bt t148 0) != 44) = false := bne_eq_false_iff_eq.mpr c49
                      clear c49
                      by_cases c50 : 1 ≤ (t148.size : Int)
                      ·
                       rw [if_pos c50] at H
                       have c50b0 := eq_true c50
                       have c50b1 : decide (1 ≤ (t148.size : Int)) = true := decide_eq_true c50
                       clear c50
                       obtain ⟨js51, hjs51⟩ : ∃ j_ : ByteArray, (t148.extract 1 t148.size) = j_ := ⟨_, rfl⟩
                       skip
                       replace H : (fastjson_validateObject.l0 kj30 js51) = some (r1, r2) := by first | (rw [hjs51] at H; exact H) | (simp only [hjs51] at H ⊢; exact H)
                       have H' := Aside0.mk H
                       clear H
                       go_wp2_with (first | ((with_reducible refine gate_callee (f := 35) rfl ?_); refine goesL_ (some 69) rfl rfl Tryd.func35 (by kernel_rfl) rfl #[.string js39] rfl (by (try simp only [List.map_toArray, List.map_cons, List.map_nil]); first | done | rfl | (simp only [List.length_drop, List.length_take]; rfl)) ?_; (with_reducible refine (fastjson_skipWS.calls kj30 js39 t144 _ A40.out).mono ?_); rintro e w' ⟨rfl, ⟨nd, rfl⟩⟩; refine ⟨_, rfl, ?_⟩) | ((with_reducible refine gate_callee (f := 36) rfl ?_); refine goesL_ (some 72) rfl rfl Tryd.func36 (by kernel_rfl) rfl #[.string t144] rfl (by (try simp only [List.map_toArray, List.map_cons, List.map_nil]); first | done | rfl | (simp only [List.length_drop, List.length_take]; rfl)) ?_; (with_reducible refine (ih_fastjson_validateValue kj30 (by have := HK1.out; have := HJ11.out; have := HK3.out; have := HJ30.out; omega) t144 t145 none _ A41.out (HG.out.below (by repeat (first | (with_reducible first | exact HB.out | apply below_alloc | apply pw_below_drewN | apply below_drew1) | exact HB.out)))).mono ?_); rintro e w52 ⟨evz_, rfl, hb⟩; refine ⟨_, rfl, ?_⟩; have n0_ := Aside0.mk (below_step (by repeat (first | (with_reducible first | exact HB.out | apply below_alloc | apply pw_below_drewN | apply below_drew1) | exact HB.out)) hb); clear HB; have HB := n0_; clear n0_; (try clear hb); (try clear hb2); (try clear hk); (try clear hi); (try simp only [errX_none, errX_some])) | ((with_reducible refine gate_callee (f := 35) rfl ?_); refine goesL_ (some 80) rfl rfl Tryd.func35 (by kernel_rfl) rfl #[.string t145] rfl (by (try simp only [List.map_toArray, List.map_cons, List.map_nil]); first | done | rfl | (simp only [List.length_drop, List.length_take]; rfl)) ?_; (with_reducible refine (fastjson_skipWS.calls kj30 t145 t148 _ A42.out).mono ?_); rintro e w' ⟨rfl, ⟨nd, rfl⟩⟩; refine ⟨_, rfl, ?_⟩; have p48 : 0 ≤ (0 : Int) := (by omega); have q48 : 0 < t148.size := (by have : (0 : Int) < (t148.size : Int) := of_decide_eq_true (by first | (with_reducible assumption) | assumption); omega); have hx48 := bt_lit t148 0 0 rfl; clear p48; have qi48 : (0 < (t148.size : Int)) = True := eq_true (of_decide_eq_true (by first | (with_reducible assumption) | assumption)); replace q48 := eq_true q48))
                       go_roundg kj30
                       case measure => have := HK1.out; have := HJ11.out; have := HK3.out; have := HJ30.out; omega
                       case rel => exact ⟨(js51), (by first | rfl | (simp; done) | (simp only [← hjs51] <;> (first | rfl | simp); done) | (simp [nil_ne_, nil_eq_]; done) | (simp [*]; done)), (by first | exact H' | (rw [hjs51]; exact H') | (simp only [hjs20, hjs39, hjs51]; exact H') | (simp only [hjs20, hjs39, hjs51] at H' ⊢; exact H')), ⟨by have := HK1.out; have := HJ11.out; have := HK3.out; have := HJ30.out; omega⟩, ⟨by repeat (first | (with_reducible first | exact HB.out | apply below_alloc | apply pw_below_drewN | apply below_drew1) | exact HB.out)⟩⟩
                      ·
                       rw [if_neg c50] at H
                       exact absurd H (by simp)
                     ·
                      rw [if_neg c49] at H
                      have c49b0 : ((bt t148 0) == 44) = false := beq_eq_false_iff_ne.mpr c49
                      have c49b1 : ((bt t148 0) != 44) = true := bne_iff_ne.mpr c49
                      by_cases c54 : (bt t148 0) = 125
                      ·
                       rw [if_pos c54] at H
                       have c54b0 : ((bt t148 0) == 125) = true := beq_iff_eq.mpr c54
                       have c54b1 : ((bt t148 0) != 125) = false := bne_eq_false_iff_eq.mpr c54
                       clear c54
                       by_cases c55 : 1 ≤ (t148.size : Int)
                       ·
                        rw [if_pos c55] at H
                        have c55b0 := eq_true c55
                        have c55b1 : decide (1 ≤ (t148.size : Int)) = true := decide_eq_true c55
                        clear c55
                        obtain ⟨js56, hjs56⟩ : ∃ j_ : ByteArray, (t148.extract 1 t148.size) = j_ := ⟨_, rfl⟩
                        skip
                        replace H : (some (js56, none)) = some (r1, r2) := by first | (rw [hjs56] at H; exact H) | (simp only [hjs56] at H ⊢; exact H)
                        simp only [Option.some.injEq, Prod.mk.injEq] at H
                        obtain ⟨rfl, rfl⟩ := H
                        go_wp2_with (first | ((with_reducible refine gate_callee (f := 35) rfl ?_); refine goesL_ (some 69) rfl rfl Tryd.func35 (by kernel_rfl) rfl #[.string js39] rfl (by (try simp only [List.map_toArray, List.map_cons, List.map_nil]); first | done | rfl | (simp only [List.length_drop, List.length_take]; rfl)) ?_; (with_reducible refine (fastjson_skipWS.calls kj30 js39 t144 _ A40.out).mono ?_); rintro e w' ⟨rfl, ⟨nd, rfl⟩⟩; refine ⟨_, rfl, ?_⟩) | ((with_reducible refine gate_callee (f := 36) rfl ?_); refine goesL_ (some 72) rfl rfl Tryd.func36 (by kernel_rfl) rfl #[.string t144] rfl (by (try simp only [List.map_toArray, List.map_cons, List.map_nil]); first | done | rfl | (simp only [List.length_drop, List.length_take]; rfl)) ?_; (with_reducible refine (ih_fastjson_validateValue kj30 (by have := HK1.out; have := HJ11.out; have := HK3.out; have := HJ30.out; omega) t144 t145 none _ A41.out (HG.out.below (by repeat (first | (with_reducible first | exact HB.out | apply below_alloc | apply pw_below_drewN | apply below_drew1) | exact HB.out)))).mono ?_); rintro e w57 ⟨evz_, rfl, hb⟩; refine ⟨_, rfl, ?_⟩; have n0_ := Aside0.mk (below_step (by repeat (first | (with_reducible first | exact HB.out | apply below_alloc | apply pw_below_drewN | apply below_drew1) | exact HB.out)) hb); clear HB; have HB := n0_; clear n0_; (try clear hb); (try clear hb2); (try clear hk); (try clear hi); (try simp only [errX_none, errX_some])) | ((with_reducible refine gate_callee (f := 35) rfl ?_); refine goesL_ (some 80) rfl rfl Tryd.func35 (by kernel_rfl) rfl #[.string t145] rfl (by (try simp only [List.map_toArray, List.map_cons, List.map_nil]); first | done | rfl | (simp only [List.length_drop, List.length_take]; rfl)) ?_; (with_reducible refine (fastjson_skipWS.calls kj30 t145 t148 _ A42.out).mono ?_); rintro e w' ⟨rfl, ⟨nd, rfl⟩⟩; refine ⟨_, rfl, ?_⟩; have p48 : 0 ≤ (0 : Int) := (by omega); have q48 : 0 < t148.size := (by have : (0 : Int) < (t148.size : Int) := of_decide_eq_true (by first | (with_reducible assumption) | assumption); omega); have hx48 := bt_lit t148 0 0 rfl; clear p48; have qi48 : (0 < (t148.size : Int)) = True := eq_true (of_decide_eq_true (by first | (with_reducible assumption) | assumption)); replace q48 := eq_true q48; have p53 : 0 ≤ (0 : Int) := (by omega); have q53 : 0 < t148.size := (by have : (0 : Int) < (t148.size : Int) := of_decide_eq_true (by first | (with_reducible assumption) | assumption); omega); have hx53 := bt_lit t148 0 0 rfl; clear p53; have qi53 : (0 < (t148.size : Int)) = True := eq_true (of_decide_eq_true (by first | (with_reducible assumption) | assumption)); replace q53 := eq_true q53))
                        go_ret2
                        first | exact ⟨(0, Value.nilIface), by first | rfl | (simp [errX_none, errX_some] <;> rfl) | (simp only [← hjs20, ← hjs39, ← hjs56]; first | rfl | (simp [errX_none, errX_some] <;> rfl)) | (simp [*, errX_none, errX_some] <;> rfl), by repeat (first | (with_reducible first | exact HB.out | apply below_alloc | apply pw_below_drewN | apply below_drew1) | exact HB.out)⟩ | exact ⟨⟨((0, Value.nilIface)).1, ((0, Value.nilIface)).2, by first | rfl | (simp [errX_none, errX_some] <;> rfl) | (simp only [← hjs20, ← hjs39, ← hjs56]; first | rfl | (simp [errX_none, errX_some] <;> rfl)) | (simp [*, errX_none, errX_some] <;> rfl)⟩, by repeat (first | (with_reducible first | exact HB.out | apply below_alloc | apply pw_below_drewN | apply below_drew1) | exact HB.out)⟩
                       ·
                        rw [if_neg c55] at H
                        exact absurd H (by simp)
                      ·
                       rw [if_neg c54] at H
                       have c54b0 : ((bt t148 0) == 125) = false := beq_eq_false_iff_ne.mpr c54
                       have c54b1 : ((bt t148 0) != 125) = true := bne_iff_ne.mpr c54
                       replace H := Option.bind_eq_some_iff.mp H
                       obtain ⟨t150, A580, H⟩ := H
                       replace H : (some (t148, t150)) = some (r1, r2) := H
                       have A58 := Aside0.mk A580
                       clear A580
                       simp only [Option.some.injEq, Prod.mk.injEq] at H
                       obtain ⟨rfl, rfl⟩ := H
                       go_wp2_with (first | ((with_reducible refine gate_callee (f := 35) rfl ?_); refine goesL_ (some 69) rfl rfl Tryd.func35 (by kernel_rfl) rfl #[.string js39] rfl (by (try simp only [List.map_toArray, List.map_cons, List.map_nil]); first | done | rfl | (simp only [List.length_drop, List.length_take]; rfl)) ?_; (with_reducible refine (fastjson_skipWS.calls kj30 js39 t144 _ A40.out).mono ?_); rintro e w' ⟨rfl, ⟨nd, rfl⟩⟩; refine ⟨_, rfl, ?_⟩) | ((with_reducible refine gate_callee (f := 36) rfl ?_); refine goesL_ (some 72) rfl rfl Tryd.func36 (by kernel_rfl) rfl #[.string t144] rfl (by (try simp only [List.map_toArray, List.map_cons, List.map_nil]); first | done | rfl | (simp only [List.length_drop, List.length_take]; rfl)) ?_; (with_reducible refine (ih_fastjson_validateValue kj30 (by have := HK1.out; have := HJ11.out; have := HK3.out; have := HJ30.out; omega) t144 t145 none _ A41.out (HG.out.below (by repeat (first | (with_reducible first | exact HB.out | apply below_alloc | apply pw_below_drewN | apply below_drew1) | exact HB.out)))).mono ?_); rintro e w59 ⟨evz_, rfl, hb⟩; refine ⟨_, rfl, ?_⟩; have n0_ := Aside0.mk (below_step (by repeat (first | (with_reducible first | exact HB.out | apply below_alloc | apply pw_below_drewN | apply below_drew1) | exact HB.out)) hb); clear HB; have HB := n0_; clear n0_; (try clear hb); (try clear hb2); (try clear hk); (try clear hi); (try simp only [errX_none, errX_some])) | ((with_reducible refine gate_callee (f := 35) rfl ?_); refine goesL_ (some 80) rfl rfl Tryd.func35 (by kernel_rfl) rfl #[.string t145] rfl (by (try simp only [List.map_toArray, List.map_cons, List.map_nil]); first | done | rfl | (simp only [List.length_drop, List.length_take]; rfl)) ?_; (with_reducible refine (fastjson_skipWS.calls kj30 t145 t148 _ A42.out).mono ?_); rintro e w' ⟨rfl, ⟨nd, rfl⟩⟩; refine ⟨_, rfl, ?_⟩; have p48 : 0 ≤ (0 : Int) := (by omega); have q48 : 0 < t148.size := (by have : (0 : Int) < (t148.size : Int) := of_decide_eq_true (by first | (with_reducible assumption) | assumption); omega); have hx48 := bt_lit t148 0 0 rfl; clear p48; have qi48 : (0 < (t148.size : Int)) = True := eq_true (of_decide_eq_true (by first | (with_reducible assumption) | assumption)); replace q48 := eq_true q48; have p53 : 0 ≤ (0 : Int) := (by omega); have q53 : 0 < t148.size := (by have : (0 : Int) < (t148.size : Int) := of_decide_eq_true (by first | (with_reducible assumption) | assumption); omega); have hx53 := bt_lit t148 0 0 rfl; clear p53; have qi53 : (0 < (t148.size : Int)) = True := eq_true (of_decide_eq_true (by first | (with_reducible assumption) | assumption)); replace q53 := eq_true q53) | ((with_reducible refine gate_callee (f := 37) rfl ?_); refine goesL_ (some 97) rfl rfl Tryd.func37 (by kernel_rfl) rfl #[.string (⟨#[109, 105, 115, 115, 105, 110, 103, 32, 39, 44, 39, 32, 97, 102, 116, 101, 114, 32, 111, 98, 106, 101, 99, 116, 32, 118, 97, 108, 117, 101]⟩ : ByteArray)] rfl (by (try simp only [List.map_toArray, List.map_cons, List.map_nil]); first | done | rfl | (simp only [List.length_drop, List.length_take]; rfl)) ?_; (with_reducible refine (errors_New.calls (⟨#[109, 105, 115, 115, 105, 110, 103, 32, 39, 44, 39, 32, 97, 102, 116, 101, 114, 32, 111, 98, 106, 101, 99, 116, 32, 118, 97, 108, 117, 101]⟩ : ByteArray) t150 _ A58.out).mono ?_); rintro e w60 ⟨evt150, rfl, hb⟩; refine ⟨_, rfl, ?_⟩; have n0_ := Aside0.mk (below_step (by repeat (first | (with_reducible first | exact HB.out | apply below_alloc | apply pw_below_drewN | apply below_drew1) | exact HB.out)) hb); clear HB; have HB := n0_; clear n0_; (try clear hb); (try clear hb2); (try clear hk); (try clear hi); (try simp only [errX_none, errX_some])))
                       go_ret2
                       first | exact ⟨evt150, by first | rfl | (simp [errX_none, errX_some] <;> rfl) | (simp only [← hjs20, ← hjs39]; first | rfl | (simp [errX_none, errX_some] <;> rfl)) | (simp [*, errX_none, errX_some] <;> rfl), by repeat (first | (with_reducible first | exact HB.out | apply below_alloc | apply pw_below_drewN | apply below_drew1) | exact HB.out)⟩ | exact ⟨⟨(evt150).1, (evt150).2, by first | rfl | (simp [errX_none, errX_some] <;> rfl) | (simp only [← hjs20, ← hjs39]; first | rfl | (simp [errX_none, errX_some] <;> rfl)) | (simp [*, errX_none, errX_some] <;> rfl)⟩, by repeat (first | (with_reducible first | exact HB.out | apply below_alloc | apply pw_below_drewN | apply below_drew1) | exact HB.out)⟩
                    ·
                     rw [if_neg c47] at H
                     exact absurd H (by simp)
                  ·
                   have H1 : ((errors_New.f (⟨#[99, 97, 110, 110, 111, 116, 32, 112, 97, 114, 115, 101, 32, 111, 98, 106, 101, 99, 116, 32, 118, 97, 108, 117, 101]⟩ : ByteArray)).bind fun t151 => (some (t145, t151))) = some (r1, r2) := by rw [if_neg (show ¬ (some q147).isNone = true by simp)] at H; exact H
                   clear H
                   have H := H1
                   clear H1
                   try simp only [errX_none, errX_some]
                   replace H := Option.bind_eq_some_iff.mp H
                   obtain ⟨t151, A610, H⟩ := H
                   replace H : (some (t145, t151)) = some (r1, r2) := H
                   have A61 := Aside0.mk A610
                   clear A610
                   simp only [Option.some.injEq, Prod.mk.injEq] at H
                   obtain ⟨rfl, rfl⟩ := H
                   go_wp2_with (first | ((with_reducible refine gate_callee (f := 35) rfl ?_); refine goesL_ (some 69) rfl rfl Tryd.func35 (by kernel_rfl) rfl #[.string js39] rfl (by (try simp only [List.map_toArray, List.map_cons, List.map_nil]); first | done | rfl | (simp only [List.length_drop, List.length_take]; rfl)) ?_; (with_reducible refine (fastjson_skipWS.calls kj30 js39 t144 _ A40.out).mono ?_); rintro e w' ⟨rfl, ⟨nd, rfl⟩⟩; refine ⟨_, rfl, ?_⟩) | ((with_reducible refine gate_callee (f := 36) rfl ?_); refine goesL_ (some 72) rfl rfl Tryd.func36 (by kernel_rfl) rfl #[.string t144] rfl (by (try simp only [List.map_toArray, List.map_cons, List.map_nil]); first | done | rfl | (simp only [List.length_drop, List.length_take]; rfl)) ?_; (with_reducible refine (ih_fastjson_validateValue kj30 (by have := HK1.out; have := HJ11.out; have := HK3.out; have := HJ30.out; omega) t144 t145 (some q147) _ A41.out (HG.out.below (by repeat (first | (with_reducible first | exact HB.out | apply below_alloc | apply pw_below_drewN | apply below_drew1) | exact HB.out)))).mono ?_); rintro e w62 ⟨evt146, rfl, hb⟩; refine ⟨_, rfl, ?_⟩; have n0_ := Aside0.mk (below_step (by repeat (first | (with_reducible first | exact HB.out | apply below_alloc | apply pw_below_drewN | apply below_drew1) | exact HB.out)) hb); clear HB; have HB := n0_; clear n0_; (try clear hb); (try clear hb2); (try clear hk); (try clear hi); (try simp only [errX_none, errX_some])) | ((with_reducible refine gate_callee (f := 37) rfl ?_); refine goesL_ (some 78) rfl rfl Tryd.func37 (by kernel_rfl) rfl #[.string (⟨#[99, 97, 110, 110, 111, 116, 32, 112, 97, 114, 115, 101, 32, 111, 98, 106, 101, 99, 116, 32, 118, 97, 108, 117, 101]⟩ : ByteArray)] rfl (by (try simp only [List.map_toArray, List.map_cons, List.map_nil]); first | done | rfl | (simp only [List.length_drop, List.length_take]; rfl)) ?_; (with_reducible refine (errors_New.calls (⟨#[99, 97, 110, 110, 111, 116, 32, 112, 97, 114, 115, 101, 32, 111, 98, 106, 101, 99, 116, 32, 118, 97, 108, 117, 101]⟩ : ByteArray) t151 _ A61.out).mono ?_); rintro e w63 ⟨evt151, rfl, hb⟩; refine ⟨_, rfl, ?_⟩; have n0_ := Aside0.mk (below_step (by repeat (first | (with_reducible first | exact HB.out | apply below_alloc | apply pw_below_drewN | apply below_drew1) | exact HB.out)) hb); clear HB; have HB := n0_; clear n0_; (try clear hb); (try clear hb2); (try clear hk); (try clear hi); (try simp only [errX_none, errX_some])))
                   go_ret2
                   first | exact ⟨evt151, by first | rfl | (simp [errX_none, errX_some] <;> rfl) | (simp only [← hjs20, ← hjs39]; first | rfl | (simp [errX_none, errX_some] <;> rfl)) | (simp [*, errX_none, errX_some] <;> rfl), by repeat (first | (with_reducible first | exact HB.out | apply below_alloc | apply pw_below_drewN | apply below_drew1) | exact HB.out)⟩ | exact ⟨⟨(evt151).1, (evt151).2, by first | rfl | (simp [errX_none, errX_some] <;> rfl) | (simp only [← hjs20, ← hjs39]; first | rfl | (simp [errX_none, errX_some] <;> rfl)) | (simp [*, errX_none, errX_some] <;> rfl)⟩, by repeat (first | (with_reducible first | exact HB.out | apply below_alloc | apply pw_below_drewN | apply below_drew1) | exact HB.out)⟩
                 ·
                  rw [if_neg c38] at H
                  exact absurd H (by simp)
          ·
           have H1 : ((errors_New.f (⟨#[99, 97, 110, 110, 111, 116, 32, 112, 97, 114, 115, 101, 32, 111, 98, 106, 101, 99, 116, 32, 107, 101, 121]⟩ : ByteArray)).bind fun t152 => (some (t138, t152))) = some (r1, r2) := by rw [if_neg (show ¬ (some q140).isNone = true by simp)] at H; exact H
           clear H
           have H := H1
           clear H1
           try simp only [errX_none, errX_some]
           replace H := Option.bind_eq_some_iff.mp H
           obtain ⟨t152, A640, H⟩ := H
           replace H : (some (t138, t152)) = some (r1, r2) := H
           have A64 := Aside0.mk A640
           clear A640
           simp only [Option.some.injEq, Prod.mk.injEq] at H
           obtain ⟨rfl, rfl⟩ := H
           go_wp2_with (first | ((with_reducible refine gate_callee (f := 53) rfl ?_); refine goesL_ (some 34) rfl rfl Tryd.func53 (by kernel_rfl) rfl #[.string js20] rfl (by (try simp only [List.map_toArray, List.map_cons, List.map_nil]); first | done | rfl | (simp only [List.length_drop, List.length_take]; rfl)) ?_; (with_reducible refine (fastjson_validateKey.calls kj11 js20 t137 t138 (some q140) _ A21.out (HG.out.below (by repeat (first | (with_reducible first | exact HB.out | apply below_alloc | apply pw_below_drewN | apply below_drew1) | exact HB.out)))).mono ?_); rintro e w65 ⟨evt139, rfl, hb⟩; refine ⟨_, rfl, ?_⟩; have n0_ := Aside0.mk (below_step (by repeat (first | (with_reducible first | exact HB.out | apply below_alloc | apply pw_below_drewN | apply below_drew1) | exact HB.out)) hb); clear HB; have HB := n0_; clear n0_; (try clear hb); (try clear hb2); (try clear hk); (try clear hi); (try simp only [errX_none, errX_some])) | ((with_reducible refine gate_callee (f := 37) rfl ?_); refine goesL_ (some 41) rfl rfl Tryd.func37 (by kernel_rfl) rfl #[.string (⟨#[99, 97, 110, 110, 111, 116, 32, 112, 97, 114, 115, 101, 32, 111, 98, 106, 101, 99, 116, 32, 107, 101, 121]⟩ : ByteArray)] rfl (by (try simp only [List.map_toArray, List.map_cons, List.map_nil]); first | done | rfl | (simp only [List.length_drop, List.length_take]; rfl)) ?_; (with_reducible refine (errors_New.calls (⟨#[99, 97, 110, 110, 111, 116, 32, 112, 97, 114, 115, 101, 32, 111, 98, 106, 101, 99, 116, 32, 107, 101, 121]⟩ : ByteArray) t152 _ A64.out).mono ?_); rintro e w66 ⟨evt152, rfl, hb⟩; refine ⟨_, rfl, ?_⟩; have n0_ := Aside0.mk (below_step (by repeat (first | (with_reducible first | exact HB.out | apply below_alloc | apply pw_below_drewN | apply below_drew1) | exact HB.out)) hb); clear HB; have HB := n0_; clear n0_; (try clear hb); (try clear hb2); (try clear hk); (try clear hi); (try simp only [errX_none, errX_some])))
           go_ret2
           first | exact ⟨evt152, by first | rfl | (simp [errX_none, errX_some] <;> rfl) | (simp only [← hjs20]; first | rfl | (simp [errX_none, errX_some] <;> rfl)) | (simp [*, errX_none, errX_some] <;> rfl), by repeat (first | (with_reducible first | exact HB.out | apply below_alloc | apply pw_below_drewN | apply below_drew1) | exact HB.out)⟩ | exact ⟨⟨(evt152).1, (evt152).2, by first | rfl | (simp [errX_none, errX_some] <;> rfl) | (simp only [← hjs20]; first | rfl | (simp [errX_none, errX_some] <;> rfl)) | (simp [*, errX_none, errX_some] <;> rfl)⟩, by repeat (first | (with_reducible first | exact HB.out | apply below_alloc | apply pw_below_drewN | apply below_drew1) | exact HB.out)⟩
         ·
          rw [if_neg c19] at H
          exact absurd H (by simp)
  ·
   rw [if_neg c6] at H
   exact absurd H (by simp)

end Go.Proofs.YtdhiihegfdmokaaDoor.PFnFjValidBytes
