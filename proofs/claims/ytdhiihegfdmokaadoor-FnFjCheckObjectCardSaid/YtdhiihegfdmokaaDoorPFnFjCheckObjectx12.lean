/- what the Go functions that the law FnFjCheckObject reaches compute, each as a plain function, with the proof that the Go code computes just that; no condition beside those that each theorem states. -/
import Derived.Test.YtdhiihegfdmokaaDoorPFnFjCheckObjectx0
import Derived.Test.YtdhiihegfdmokaaDoorPFnFjCheckObjectx8
import Derived.Test.YtdhiihegfdmokaaDoorPFnFjCheckObjectx9
import Derived.Test.YtdhiihegfdmokaaDoorPFnFjCheckObjectx10
import Derived.Test.YtdhiihegfdmokaaDoorHEFnFjCheckObject
namespace Go.Proofs.YtdhiihegfdmokaaDoor.PFnFjCheckObject
open Go.RowKit Go.Proofs.YtdhiihegfdmokaaDoorW.PrintWords Go.Proofs.YtdhiihegfdmokaaDoorW.PrintLast Go.Proofs.YtdhiihegfdmokaaDoorW.PrintMore
set_option linter.unusedVariables false
set_option linter.unusedSimpArgs false
set_option maxHeartbeats 8000000 in
set_option maxRecDepth 100000 in
theorem fastjson_validateValue.calls_ (k : Nat) (ih_fastjson_validateObject : ∀ m_, m_ < k → fastjson_validateObject.CallsP m_) (ih_fastjson_validateValue : ∀ m_, m_ < k → fastjson_validateValue.CallsP m_) (ih_fastjson_validateArray : ∀ m_, m_ < k → fastjson_validateArray.CallsP m_) : fastjson_validateValue.CallsP k := by
 intro a0 r1 r2 w h hG
 cases k with
  | zero => exact absurd h (by simp [fastjson_validateValue.f])
  | succ k =>
 simp only [fastjson_validateValue.f] at h
 have hu43 := Tryd.underlying43
 have HB := Aside0.mk (Below.refl w.heap.size w)
 have HG := Aside0.mk hG
 clear hG
 have H : (if (a0.size : Int) = 0 then ((errors_New.f (⟨#[99, 97, 110, 110, 111, 116, 32, 112, 97, 114, 115, 101, 32, 101, 109, 112, 116, 121, 32, 115, 116, 114, 105, 110, 103]⟩ : ByteArray)).bind fun t343 => (some (a0, t343))) else (if 0 < (a0.size : Int) then (if (bt a0 0) = 123 then (if 1 ≤ (a0.size : Int) then ((fastjson_validateObject.f k (a0.extract 1 a0.size)).bind fun bt344 => (if bt344.2.isNone = true then (some (bt344.1, none)) else ((errors_New.f (⟨#[99, 97, 110, 110, 111, 116, 32, 112, 97, 114, 115, 101, 32, 111, 98, 106, 101, 99, 116]⟩ : ByteArray)).bind fun t347 => (some (bt344.1, t347))))) else (none)) else (if (bt a0 0) = 91 then (if 1 ≤ (a0.size : Int) then ((fastjson_validateArray.f k (a0.extract 1 a0.size)).bind fun bt348 => (if bt348.2.isNone = true then (some (bt348.1, none)) else ((errors_New.f (⟨#[99, 97, 110, 110, 111, 116, 32, 112, 97, 114, 115, 101, 32, 97, 114, 114, 97, 121]⟩ : ByteArray)).bind fun t351 => (some (bt348.1, t351))))) else (none)) else (if (bt a0 0) = 34 then (if 1 ≤ (a0.size : Int) then ((fastjson_validateString.f k (a0.extract 1 a0.size)).bind fun bt352 => (if bt352.2.2.isNone = true then (fastjson_validateValue.l0 k bt352.1 bt352.2.1 (bt352.1.size : Int) 0) else ((errors_New.f (⟨#[99, 97, 110, 110, 111, 116, 32, 112, 97, 114, 115, 101, 32, 115, 116, 114, 105, 110, 103]⟩ : ByteArray)).bind fun t357 => (some (bt352.2.1, t357))))) else (none)) else (if (bt a0 0) = 116 then (if (a0.size : Int) < 4 then ((errors_New.f (⟨#[117, 110, 101, 120, 112, 101, 99, 116, 101, 100, 32, 118, 97, 108, 117, 101, 32, 102, 111, 117, 110, 100]⟩ : ByteArray)).bind fun t358 => (some (a0, t358))) else (if 0 ≤ 4 then (if 4 ≤ (a0.size : Int) then (if (a0.extract 0 4).toList = ([116, 114, 117, 101] : List UInt8) then (some (a0.extract 4 a0.size, none)) else ((errors_New.f (⟨#[117, 110, 101, 120, 112, 101, 99, 116, 101, 100, 32, 118, 97, 108, 117, 101, 32, 102, 111, 117, 110, 100]⟩ : ByteArray)).bind fun t359 => (some (a0, t359)))) else (none)) else (none))) else (if (bt a0 0) = 102 then (if (a0.size : Int) < 5 then ((errors_New.f (⟨#[117, 110, 101, 120, 112, 101, 99, 116, 101, 100, 32, 118, 97, 108, 117, 101, 32, 102, 111, 117, 110, 100]⟩ : ByteArray)).bind fun t360 => (some (a0, t360))) else (if 0 ≤ 5 then (if 5 ≤ (a0.size : Int) then (if (a0.extract 0 5).toList = ([102, 97, 108, 115, 101] : List UInt8) then (some (a0.extract 5 a0.size, none)) else ((errors_New.f (⟨#[117, 110, 101, 120, 112, 101, 99, 116, 101, 100, 32, 118, 97, 108, 117, 101, 32, 102, 111, 117, 110, 100]⟩ : ByteArray)).bind fun t361 => (some (a0, t361)))) else (none)) else (none))) else (if (bt a0 0) = 110 then (if (a0.size : Int) < 4 then ((errors_New.f (⟨#[117, 110, 101, 120, 112, 101, 99, 116, 101, 100, 32, 118, 97, 108, 117, 101, 32, 102, 111, 117, 110, 100]⟩ : ByteArray)).bind fun t362 => (some (a0, t362))) else (if 0 ≤ 4 then (if 4 ≤ (a0.size : Int) then (if (a0.extract 0 4).toList = ([110, 117, 108, 108] : List UInt8) then (some (a0.extract 4 a0.size, none)) else ((errors_New.f (⟨#[117, 110, 101, 120, 112, 101, 99, 116, 101, 100, 32, 118, 97, 108, 117, 101, 32, 102, 111, 117, 110, 100]⟩ : ByteArray)).bind fun t363 => (some (a0, t363)))) else (none)) else (none))) else ((fastjson_validateNumber.f k a0).bind fun bt364 => (if bt364.2.isNone = true then (some (bt364.1, none)) else ((errors_New.f (⟨#[99, 97, 110, 110, 111, 116, 32, 112, 97, 114, 115, 101, 32, 110, 117, 109, 98, 101, 114]⟩ : ByteArray)).bind fun t367 => (some (bt364.1, t367))))))))))) else (none))) = some (r1, r2) := h
 clear h
 by_cases c2 : (a0.size : Int) = 0
 ·
  rw [if_pos c2] at H
  have c2b0 : ((a0.size : Int) == 0) = true := beq_iff_eq.mpr c2
  have c2b1 : ((a0.size : Int) != 0) = false := bne_eq_false_iff_eq.mpr c2
  clear c2
  replace H := Option.bind_eq_some_iff.mp H
  obtain ⟨t343, A30, H⟩ := H
  replace H : (some (a0, t343)) = some (r1, r2) := H
  have A3 := Aside0.mk A30
  clear A30
  simp only [Option.some.injEq, Prod.mk.injEq] at H
  obtain ⟨rfl, rfl⟩ := H
  go_enter Tryd.func36, Tryd.ntmps36
  go_wp2_with (first | ((with_reducible refine gate_callee (f := 37) rfl ?_); refine goesL_ (some 18) rfl rfl Tryd.func37 (by kernel_rfl) rfl #[.string (⟨#[99, 97, 110, 110, 111, 116, 32, 112, 97, 114, 115, 101, 32, 101, 109, 112, 116, 121, 32, 115, 116, 114, 105, 110, 103]⟩ : ByteArray)] rfl (by (try simp only [List.map_toArray, List.map_cons, List.map_nil]); first | done | rfl | (simp only [List.length_drop, List.length_take]; rfl)) ?_; (with_reducible refine (errors_New.calls (⟨#[99, 97, 110, 110, 111, 116, 32, 112, 97, 114, 115, 101, 32, 101, 109, 112, 116, 121, 32, 115, 116, 114, 105, 110, 103]⟩ : ByteArray) t343 _ A3.out).mono ?_); rintro e w4 ⟨evt343, rfl, hb⟩; refine ⟨_, rfl, ?_⟩; have n0_ := Aside0.mk (below_step (by repeat (first | (with_reducible first | exact HB.out | apply below_alloc | apply pw_below_drewN | apply below_drew1) | exact HB.out)) hb); clear HB; have HB := n0_; clear n0_; (try clear hb); (try clear hb2); (try clear hk); (try clear hi); (try simp only [errX_none, errX_some])))
  go_ret2
  first | exact ⟨evt343, by first | rfl | (simp [errX_none, errX_some] <;> rfl) | (simp [*, errX_none, errX_some] <;> rfl), by repeat (first | (with_reducible first | exact HB.out | apply below_alloc | apply pw_below_drewN | apply below_drew1) | exact HB.out)⟩ | exact ⟨⟨(evt343).1, (evt343).2, by first | rfl | (simp [errX_none, errX_some] <;> rfl) | (simp [*, errX_none, errX_some] <;> rfl)⟩, by repeat (first | (with_reducible first | exact HB.out | apply below_alloc | apply pw_below_drewN | apply below_drew1) | exact HB.out)⟩
 rw [if_neg c2] at H
 have c2b0 : ((a0.size : Int) == 0) = false := beq_eq_false_iff_ne.mpr c2
 have c2b1 : ((a0.size : Int) != 0) = true := bne_iff_ne.mpr c2
 by_cases c5 : 0 < (a0.size : Int)
 ·
  rw [if_pos c5] at H
  have c5b0 : decide (0 < (a0.size : Int)) = true := decide_eq_true c5
  have c5b1 : decide (0 < a0.size) = true := decide_eq_true (by omega)
  clear c5
  by_cases c7 : (bt a0 0) = 123
  ·
   rw [if_pos c7] at H
   have c7b0 : ((bt a0 0) == 123) = true := beq_iff_eq.mpr c7
   have c7b1 : ((bt a0 0) != 123) = false := bne_eq_false_iff_eq.mpr c7
   clear c7
   by_cases c8 : 1 ≤ (a0.size : Int)
   ·
    rw [if_pos c8] at H
    have c8b0 := eq_true c8
    have c8b1 : decide (1 ≤ (a0.size : Int)) = true := decide_eq_true c8
    clear c8
    replace H := Option.bind_eq_some_iff.mp H
    obtain ⟨⟨t344, t345⟩, A90, H⟩ := H
    replace H : (if t345.isNone = true then (some (t344, none)) else ((errors_New.f (⟨#[99, 97, 110, 110, 111, 116, 32, 112, 97, 114, 115, 101, 32, 111, 98, 106, 101, 99, 116]⟩ : ByteArray)).bind fun t347 => (some (t344, t347)))) = some (r1, r2) := H
    have A9 := Aside0.mk A90
    clear A90
    rcases t345 with _ | q346
    ·
     have H1 : (some (t344, none)) = some (r1, r2) := by rw [if_pos (show (none : Option Int).isNone = true by rfl)] at H; exact H
     clear H
     have H := H1
     clear H1
     try simp only [errX_none, errX_some]
     simp only [Option.some.injEq, Prod.mk.injEq] at H
     obtain ⟨rfl, rfl⟩ := H
     have p6 : 0 ≤ (0 : Int) := (by omega)
     have q6 : 0 < a0.size := (by have : (0 : Int) < (a0.size : Int) := of_decide_eq_true (by first | (with_reducible assumption) | assumption); omega)
     have hx6 := bt_lit a0 0 0 rfl
     clear p6
     have qi6 : (0 < (a0.size : Int)) = True := eq_true (of_decide_eq_true (by first | (with_reducible assumption) | assumption))
     replace q6 := eq_true q6
     go_enter Tryd.func36, Tryd.ntmps36
     go_wp2_with (first | ((with_reducible refine gate_callee (f := 34) rfl ?_); refine goesL_ (some 25) rfl rfl Tryd.func34 (by kernel_rfl) rfl #[.string (a0.extract 1 a0.size)] rfl (by (try simp only [List.map_toArray, List.map_cons, List.map_nil]); first | done | rfl | (simp only [List.length_drop, List.length_take]; rfl)) ?_; (with_reducible refine (ih_fastjson_validateObject k (by omega) (a0.extract 1 a0.size) t344 none _ A9.out (HG.out.below (by repeat (first | (with_reducible first | exact HB.out | apply below_alloc | apply pw_below_drewN | apply below_drew1) | exact HB.out)))).mono ?_); rintro e w10 ⟨evz_, rfl, hb⟩; refine ⟨_, rfl, ?_⟩; have n0_ := Aside0.mk (below_step (by repeat (first | (with_reducible first | exact HB.out | apply below_alloc | apply pw_below_drewN | apply below_drew1) | exact HB.out)) hb); clear HB; have HB := n0_; clear n0_; (try clear hb); (try clear hb2); (try clear hk); (try clear hi); (try simp only [errX_none, errX_some])))
     go_ret2
     first | exact ⟨(0, Value.nilIface), by first | rfl | (simp [errX_none, errX_some] <;> rfl) | (simp [*, errX_none, errX_some] <;> rfl), by repeat (first | (with_reducible first | exact HB.out | apply below_alloc | apply pw_below_drewN | apply below_drew1) | exact HB.out)⟩ | exact ⟨⟨((0, Value.nilIface)).1, ((0, Value.nilIface)).2, by first | rfl | (simp [errX_none, errX_some] <;> rfl) | (simp [*, errX_none, errX_some] <;> rfl)⟩, by repeat (first | (with_reducible first | exact HB.out | apply below_alloc | apply pw_below_drewN | apply below_drew1) | exact HB.out)⟩
    have H1 : ((errors_New.f (⟨#[99, 97, 110, 110, 111, 116, 32, 112, 97, 114, 115, 101, 32, 111, 98, 106, 101, 99, 116]⟩ : ByteArray)).bind fun t347 => (some (t344, t347))) = some (r1, r2) := by rw [if_neg (show ¬ (some q346).isNone = true by simp)] at H; exact H
    clear H
    have H := H1
    clear H1
    try simp only [errX_none, errX_some]
    replace H := Option.bind_eq_some_iff.mp H
    obtain ⟨t347, A110, H⟩ := H
    replace H : (some (t344, t347)) = some (r1, r2) := H
    have A11 := Aside0.mk A110
    clear A110
    simp only [Option.some.injEq, Prod.mk.injEq] at H
    obtain ⟨rfl, rfl⟩ := H
    have p6 : 0 ≤ (0 : Int) := (by omega)
    have q6 : 0 < a0.size := (by have : (0 : Int) < (a0.size : Int) := of_decide_eq_true (by first | (with_reducible assumption) | assumption); omega)
    have hx6 := bt_lit a0 0 0 rfl
    clear p6
    have qi6 : (0 < (a0.size : Int)) = True := eq_true (of_decide_eq_true (by first | (with_reducible assumption) | assumption))
    replace q6 := eq_true q6
    go_enter Tryd.func36, Tryd.ntmps36
    go_wp2_with (first | ((with_reducible refine gate_callee (f := 34) rfl ?_); refine goesL_ (some 25) rfl rfl Tryd.func34 (by kernel_rfl) rfl #[.string (a0.extract 1 a0.size)] rfl (by (try simp only [List.map_toArray, List.map_cons, List.map_nil]); first | done | rfl | (simp only [List.length_drop, List.length_take]; rfl)) ?_; (with_reducible refine (ih_fastjson_validateObject k (by omega) (a0.extract 1 a0.size) t344 (some q346) _ A9.out (HG.out.below (by repeat (first | (with_reducible first | exact HB.out | apply below_alloc | apply pw_below_drewN | apply below_drew1) | exact HB.out)))).mono ?_); rintro e w12 ⟨evt345, rfl, hb⟩; refine ⟨_, rfl, ?_⟩; have n0_ := Aside0.mk (below_step (by repeat (first | (with_reducible first | exact HB.out | apply below_alloc | apply pw_below_drewN | apply below_drew1) | exact HB.out)) hb); clear HB; have HB := n0_; clear n0_; (try clear hb); (try clear hb2); (try clear hk); (try clear hi); (try simp only [errX_none, errX_some])) | ((with_reducible refine gate_callee (f := 37) rfl ?_); refine goesL_ (some 31) rfl rfl Tryd.func37 (by kernel_rfl) rfl #[.string (⟨#[99, 97, 110, 110, 111, 116, 32, 112, 97, 114, 115, 101, 32, 111, 98, 106, 101, 99, 116]⟩ : ByteArray)] rfl (by (try simp only [List.map_toArray, List.map_cons, List.map_nil]); first | done | rfl | (simp only [List.length_drop, List.length_take]; rfl)) ?_; (with_reducible refine (errors_New.calls (⟨#[99, 97, 110, 110, 111, 116, 32, 112, 97, 114, 115, 101, 32, 111, 98, 106, 101, 99, 116]⟩ : ByteArray) t347 _ A11.out).mono ?_); rintro e w13 ⟨evt347, rfl, hb⟩; refine ⟨_, rfl, ?_⟩; have n0_ := Aside0.mk (below_step (by repeat (first | (with_reducible first | exact HB.out | apply below_alloc | apply pw_below_drewN | apply below_drew1) | exact HB.out)) hb); clear HB; have HB := n0_; clear n0_; (try clear hb); (try clear hb2); (try clear hk); (try clear hi); (try simp only [errX_none, errX_some])))
    go_ret2
    first | exact ⟨evt347, by first | rfl | (simp [errX_none, errX_some] <;> rfl) | (simp [*, errX_none, errX_some] <;> rfl), by repeat (first | (with_reducible first | exact HB.out | apply below_alloc | apply pw_below_drewN | apply below_drew1) | exact HB.out)⟩ | exact ⟨⟨(evt347).1, (evt347).2, by first | rfl | (simp [errX_none, errX_some] <;> rfl) | (simp [*, errX_none, errX_some] <;> rfl)⟩, by repeat (first | (with_reducible first | exact HB.out | apply below_alloc | apply pw_below_drewN | apply below_drew1) | exact HB.out)⟩
   rw [if_neg c8] at H
   exact absurd H (by simp)
  rw [if_neg c7] at H
  have c7b0 : ((bt a0 0) == 123) = false := beq_eq_false_iff_ne.mpr c7
  have c7b1 : ((bt a0 0) != 123) = true := bne_iff_ne.mpr c7
  by_cases c15 : (bt a0 0) = 91
  ·
   rw [if_pos c15] at H
   have c15b0 : ((bt a0 0) == 91) = true := beq_iff_eq.mpr c15
   have c15b1 : ((bt a0 0) != 91) = false := bne_eq_false_iff_eq.mpr c15
   clear c15
   by_cases c16 : 1 ≤ (a0.size : Int)
   ·
    rw [if_pos c16] at H
    have c16b0 := eq_true c16
    have c16b1 : decide (1 ≤ (a0.size : Int)) = true := decide_eq_true c16
    clear c16
    replace H := Option.bind_eq_some_iff.mp H
    obtain ⟨⟨t348, t349⟩, A170, H⟩ := H
    replace H : (if t349.isNone = true then (some (t348, none)) else ((errors_New.f (⟨#[99, 97, 110, 110, 111, 116, 32, 112, 97, 114, 115, 101, 32, 97, 114, 114, 97, 121]⟩ : ByteArray)).bind fun t351 => (some (t348, t351)))) = some (r1, r2) := H
    have A17 := Aside0.mk A170
    clear A170
    rcases t349 with _ | q350
    ·
     have H1 : (some (t348, none)) = some (r1, r2) := by rw [if_pos (show (none : Option Int).isNone = true by rfl)] at H; exact H
     clear H
     have H := H1
     clear H1
     try simp only [errX_none, errX_some]
     simp only [Option.some.injEq, Prod.mk.injEq] at H
     obtain ⟨rfl, rfl⟩ := H
     have p6 : 0 ≤ (0 : Int) := (by omega)
     have q6 : 0 < a0.size := (by have : (0 : Int) < (a0.size : Int) := of_decide_eq_true (by first | (with_reducible assumption) | assumption); omega)
     have hx6 := bt_lit a0 0 0 rfl
     clear p6
     have qi6 : (0 < (a0.size : Int)) = True := eq_true (of_decide_eq_true (by first | (with_reducible assumption) | assumption))
     replace q6 := eq_true q6
     have p14 : 0 ≤ (0 : Int) := (by omega)
     have q14 : 0 < a0.size := (by have : (0 : Int) < (a0.size : Int) := of_decide_eq_true (by first | (with_reducible assumption) | assumption); omega)
     have hx14 := bt_lit a0 0 0 rfl
     clear p14
     have qi14 : (0 < (a0.size : Int)) = True := eq_true (of_decide_eq_true (by first | (with_reducible assumption) | assumption))
     replace q14 := eq_true q14
     go_enter Tryd.func36, Tryd.ntmps36
     go_wp2_with (first | ((with_reducible refine gate_callee (f := 55) rfl ?_); refine goesL_ (some 39) rfl rfl Tryd.func55 (by kernel_rfl) rfl #[.string (a0.extract 1 a0.size)] rfl (by (try simp only [List.map_toArray, List.map_cons, List.map_nil]); first | done | rfl | (simp only [List.length_drop, List.length_take]; rfl)) ?_; (with_reducible refine (ih_fastjson_validateArray k (by omega) (a0.extract 1 a0.size) t348 none _ A17.out (HG.out.below (by repeat (first | (with_reducible first | exact HB.out | apply below_alloc | apply pw_below_drewN | apply below_drew1) | exact HB.out)))).mono ?_); rintro e w18 ⟨evz_, rfl, hb⟩; refine ⟨_, rfl, ?_⟩; have n0_ := Aside0.mk (below_step (by repeat (first | (with_reducible first | exact HB.out | apply below_alloc | apply pw_below_drewN | apply below_drew1) | exact HB.out)) hb); clear HB; have HB := n0_; clear n0_; (try clear hb); (try clear hb2); (try clear hk); (try clear hi); (try simp only [errX_none, errX_some])))
     go_ret2
     first | exact ⟨(0, Value.nilIface), by first | rfl | (simp [errX_none, errX_some] <;> rfl) | (simp [*, errX_none, errX_some] <;> rfl), by repeat (first | (with_reducible first | exact HB.out | apply below_alloc | apply pw_below_drewN | apply below_drew1) | exact HB.out)⟩ | exact ⟨⟨((0, Value.nilIface)).1, ((0, Value.nilIface)).2, by first | rfl | (simp [errX_none, errX_some] <;> rfl) | (simp [*, errX_none, errX_some] <;> rfl)⟩, by repeat (first | (with_reducible first | exact HB.out | apply below_alloc | apply pw_below_drewN | apply below_drew1) | exact HB.out)⟩
    have H1 : ((errors_New.f (⟨#[99, 97, 110, 110, 111, 116, 32, 112, 97, 114, 115, 101, 32, 97, 114, 114, 97, 121]⟩ : ByteArray)).bind fun t351 => (some (t348, t351))) = some (r1, r2) := by rw [if_neg (show ¬ (some q350).isNone = true by simp)] at H; exact H
    clear H
    have H := H1
    clear H1
    try simp only [errX_none, errX_some]
    replace H := Option.bind_eq_some_iff.mp H
    obtain ⟨t351, A190, H⟩ := H
    replace H : (some (t348, t351)) = some (r1, r2) := H
    have A19 := Aside0.mk A190
    clear A190
    simp only [Option.some.injEq, Prod.mk.injEq] at H
    obtain ⟨rfl, rfl⟩ := H
    have p6 : 0 ≤ (0 : Int) := (by omega)
    have q6 : 0 < a0.size := (by have : (0 : Int) < (a0.size : Int) := of_decide_eq_true (by first | (with_reducible assumption) | assumption); omega)
    have hx6 := bt_lit a0 0 0 rfl
    clear p6
    have qi6 : (0 < (a0.size : Int)) = True := eq_true (of_decide_eq_true (by first | (with_reducible assumption) | assumption))
    replace q6 := eq_true q6
    have p14 : 0 ≤ (0 : Int) := (by omega)
    have q14 : 0 < a0.size := (by have : (0 : Int) < (a0.size : Int) := of_decide_eq_true (by first | (with_reducible assumption) | assumption); omega)
    have hx14 := bt_lit a0 0 0 rfl
    clear p14
    have qi14 : (0 < (a0.size : Int)) = True := eq_true (of_decide_eq_true (by first | (with_reducible assumption) | assumption))
    replace q14 := eq_true q14
    go_enter Tryd.func36, Tryd.ntmps36
    go_wp2_with (first | ((with_reducible refine gate_callee (f := 55) rfl ?_); refine goesL_ (some 39) rfl rfl Tryd.func55 (by kernel_rfl) rfl #[.string (a0.extract 1 a0.size)] rfl (by (try simp only [List.map_toArray, List.map_cons, List.map_nil]); first | done | rfl | (simp only [List.length_drop, List.length_take]; rfl)) ?_; (with_reducible refine (ih_fastjson_validateArray k (by omega) (a0.extract 1 a0.size) t348 (some q350) _ A17.out (HG.out.below (by repeat (first | (with_reducible first | exact HB.out | apply below_alloc | apply pw_below_drewN | apply below_drew1) | exact HB.out)))).mono ?_); rintro e w20 ⟨evt349, rfl, hb⟩; refine ⟨_, rfl, ?_⟩; have n0_ := Aside0.mk (below_step (by repeat (first | (with_reducible first | exact HB.out | apply below_alloc | apply pw_below_drewN | apply below_drew1) | exact HB.out)) hb); clear HB; have HB := n0_; clear n0_; (try clear hb); (try clear hb2); (try clear hk); (try clear hi); (try simp only [errX_none, errX_some])) | ((with_reducible refine gate_callee (f := 37) rfl ?_); refine goesL_ (some 45) rfl rfl Tryd.func37 (by kernel_rfl) rfl #[.string (⟨#[99, 97, 110, 110, 111, 116, 32, 112, 97, 114, 115, 101, 32, 97, 114, 114, 97, 121]⟩ : ByteArray)] rfl (by (try simp only [List.map_toArray, List.map_cons, List.map_nil]); first | done | rfl | (simp only [List.length_drop, List.length_take]; rfl)) ?_; (with_reducible refine (errors_New.calls (⟨#[99, 97, 110, 110, 111, 116, 32, 112, 97, 114, 115, 101, 32, 97, 114, 114, 97, 121]⟩ : ByteArray) t351 _ A19.out).mono ?_); rintro e w21 ⟨evt351, rfl, hb⟩; refine ⟨_, rfl, ?_⟩; have n0_ := Aside0.mk (below_step (by repeat (first | (with_reducible first | exact HB.out | apply below_alloc | apply pw_below_drewN | apply below_drew1) | exact HB.out)) hb); clear HB; have HB := n0_; clear n0_; (try clear hb); (try clear hb2); (try clear hk); (try clear hi); (try simp only [errX_none, errX_some])))
    go_ret2
    first | exact ⟨evt351, by first | rfl | (simp [errX_none, errX_some] <;> rfl) | (simp [*, errX_none, errX_some] <;> rfl), by repeat (first | (with_reducible first | exact HB.out | apply below_alloc | apply pw_below_drewN | apply below_drew1) | exact HB.out)⟩ | exact ⟨⟨(evt351).1, (evt351).2, by first | rfl | (simp [errX_none, errX_some] <;> rfl) | (simp [*, errX_none, errX_some] <;> rfl)⟩, by repeat (first | (with_reducible first | exact HB.out | apply below_alloc | apply pw_below_drewN | apply below_drew1) | exact HB.out)⟩
   rw [if_neg c16] at H
   exact absurd H (by simp)
  rw [if_neg c15] at H
  have c15b0 : ((bt a0 0) == 91) = false := beq_eq_false_iff_ne.mpr c15
  have c15b1 : ((bt a0 0) != 91) = true := bne_iff_ne.mpr c15
  by_cases c23 : (bt a0 0) = 34
  ·
   rw [if_pos c23] at H
   have c23b0 : ((bt a0 0) == 34) = true := beq_iff_eq.mpr c23
   have c23b1 : ((bt a0 0) != 34) = false := bne_eq_false_iff_eq.mpr c23
   clear c23
   by_cases c24 : 1 ≤ (a0.size : Int)
   ·
    rw [if_pos c24] at H
    have c24b0 := eq_true c24
    have c24b1 : decide (1 ≤ (a0.size : Int)) = true := decide_eq_true c24
    clear c24
    replace H := Option.bind_eq_some_iff.mp H
    obtain ⟨⟨t352, t353, t354⟩, A250, H⟩ := H
    replace H : (if t354.isNone = true then (fastjson_validateValue.l0 k t352 t353 (t352.size : Int) 0) else ((errors_New.f (⟨#[99, 97, 110, 110, 111, 116, 32, 112, 97, 114, 115, 101, 32, 115, 116, 114, 105, 110, 103]⟩ : ByteArray)).bind fun t357 => (some (t353, t357)))) = some (r1, r2) := H
    have A25 := Aside0.mk A250
    clear A250
    rcases t354 with _ | q355
    ·
     have H1 : (fastjson_validateValue.l0 k t352 t353 (t352.size : Int) 0) = some (r1, r2) := by rw [if_pos (show (none : Option Int).isNone = true by rfl)] at H; exact H
     clear H
     have H := H1
     clear H1
     try simp only [errX_none, errX_some]
     have H' := Aside0.mk H
     clear H
     have p6 : 0 ≤ (0 : Int) := (by omega)
     have q6 : 0 < a0.size := (by have : (0 : Int) < (a0.size : Int) := of_decide_eq_true (by first | (with_reducible assumption) | assumption); omega)
     have hx6 := bt_lit a0 0 0 rfl
     clear p6
     have qi6 : (0 < (a0.size : Int)) = True := eq_true (of_decide_eq_true (by first | (with_reducible assumption) | assumption))
     replace q6 := eq_true q6
     have p14 : 0 ≤ (0 : Int) := (by omega)
     have q14 : 0 < a0.size := (by have : (0 : Int) < (a0.size : Int) := of_decide_eq_true (by first | (with_reducible assumption) | assumption); omega)
     have hx14 := bt_lit a0 0 0 rfl
     clear p14
     have qi14 : (0 < (a0.size : Int)) = True := eq_true (of_decide_eq_true (by first | (with_reducible assumption) | assumption))
     replace q14 := eq_true q14
     have p22 : 0 ≤ (0 : Int) := (by omega)
     have q22 : 0 < a0.size := (by have : (0 : Int) < (a0.size : Int) := of_decide_eq_true (by first | (with_reducible assumption) | assumption); omega)
     have hx22 := bt_lit a0 0 0 rfl
     clear p22
     have qi22 : (0 < (a0.size : Int)) = True := eq_true (of_decide_eq_true (by first | (with_reducible assumption) | assumption))
     replace q22 := eq_true q22
     go_enter Tryd.func36, Tryd.ntmps36
     go_wp2_with (first | ((with_reducible refine gate_callee (f := 56) rfl ?_); refine goesL_ (some 53) rfl rfl Tryd.func56 (by kernel_rfl) rfl #[.string (a0.extract 1 a0.size)] rfl (by (try simp only [List.map_toArray, List.map_cons, List.map_nil]); first | done | rfl | (simp only [List.length_drop, List.length_take]; rfl)) ?_; (with_reducible refine (fastjson_validateString.calls k (a0.extract 1 a0.size) t352 t353 none _ A25.out (HG.out.below (by repeat (first | (with_reducible first | exact HB.out | apply below_alloc | apply pw_below_drewN | apply below_drew1) | exact HB.out)))).mono ?_); rintro e w26 ⟨evz_, rfl, hb⟩; refine ⟨_, rfl, ?_⟩; have n0_ := Aside0.mk (below_step (by repeat (first | (with_reducible first | exact HB.out | apply below_alloc | apply pw_below_drewN | apply below_drew1) | exact HB.out)) hb); clear HB; have HB := n0_; clear n0_; (try clear hb); (try clear hb2); (try clear hk); (try clear hi); (try simp only [errX_none, errX_some])))
     try simp only [Act.put, List.setIfInBounds_toArray, List.set_cons_succ, List.set_cons_zero]
     go_loopg [63] k (fun kq v63 w' => ∃ (x63_1 : Int), v63 = .int .i64 x63_1 ∧ Aside0 (fastjson_validateValue.l0 kq t352 t353 (t352.size : Int) x63_1 = some (r1, r2)) ∧ Aside0 (kq ≤ k) ∧ Aside0 (Below w.heap.size w w'))
     case atStart => exact ⟨(0), (by first | rfl | (simp; done) | (simp [nil_ne_, nil_eq_]; done) | (simp [*]; done)), H', ⟨Nat.le_refl _⟩, ⟨by repeat (first | (with_reducible first | exact HB.out | apply below_alloc | apply pw_below_drewN | apply below_drew1) | exact HB.out)⟩⟩
     case round =>
      clear H'
      try clear c1
      try clear p1
      try clear q1
      try clear hx1
      try clear qi1
      try clear c2
      try clear c2b0
      try clear c2b1
      try clear p2
      try clear q2
      try clear hx2
      try clear qi2
      try clear c3
      try clear q3
      try clear c5
      try clear c5b0
      try clear c5b1
      try clear p6
      try clear q6
      try clear hx6
      try clear qi6
      try clear c7
      try clear c7b0
      try clear c7b1
      try clear c8
      try clear c8b0
      try clear c8b1
      try clear p14
      try clear q14
      try clear hx14
      try clear qi14
      try clear c15
      try clear c15b0
      try clear c15b1
      try clear c16
      try clear c16b0
      try clear c16b1
      try clear p22
      try clear q22
      try clear hx22
      try clear qi22
      try clear c23
      try clear c23b0
      try clear c23b1
      try clear c24
      try clear c24b0
      try clear c24b1
      try clear p14
      try clear p22
      try clear p6
      try clear q14
      try clear q22
      try clear q346
      try clear q350
      try clear q355
      try clear q6
      obtain ⟨x63_1, rfl, HA, HK1, HB⟩ := hrel
      rcases gk with _ | k1
      · exact absurd HA.out (by simp [fastjson_validateValue.l0])
      have H := HA.out
      clear HA
      simp only [fastjson_validateValue.l0] at H
      by_cases c27 : x63_1 < (t352.size : Int)
      ·
       rw [if_pos c27] at H
       have c27b0 : decide (x63_1 < (t352.size : Int)) = true := decide_eq_true c27
       clear c27
       by_cases c28 : 0 ≤ x63_1
       ·
        rw [if_pos c28] at H
        have c28b0 : decide (0 ≤ x63_1) = true := decide_eq_true c28
        clear c28
        by_cases c29 : x63_1 < (t352.size : Int)
        ·
         rw [if_pos c29] at H
         have c29b0 : decide (x63_1 < (t352.size : Int)) = true := decide_eq_true c29
         clear c29
         by_cases c31 : (bt t352 x63_1) < 32
         ·
          rw [if_pos c31] at H
          have c31b0 : decide ((bt t352 x63_1) < 32) = true := decide_eq_true c31
          clear c31
          replace H := Option.bind_eq_some_iff.mp H
          obtain ⟨t356, A320, H⟩ := H
          replace H : (some (t353, t356)) = some (r1, r2) := H
          have A32 := Aside0.mk A320
          clear A320
          simp only [Option.some.injEq, Prod.mk.injEq] at H
          obtain ⟨rfl, rfl⟩ := H
          have p30 : 0 ≤ (x63_1 : Int) := of_decide_eq_true (by first | (with_reducible assumption) | assumption)
          have q30 : x63_1 < (t352.size : Int) := of_decide_eq_true (by first | (with_reducible assumption) | assumption)
          have hx30 := bt_at t352 x63_1
          replace p30 := eq_true p30
          replace q30 := eq_true q30
          go_wp2_with (first | ((with_reducible refine gate_callee (f := 37) rfl ?_); refine goesL_ (some 71) rfl rfl Tryd.func37 (by kernel_rfl) rfl #[.string (⟨#[115, 116, 114, 105, 110, 103, 32, 99, 97, 110, 110, 111, 116, 32, 99, 111, 110, 116, 97, 105, 110, 32, 99, 111, 110, 116, 114, 111, 108, 32, 99, 104, 97, 114, 32, 48, 120]⟩ : ByteArray)] rfl (by (try simp only [List.map_toArray, List.map_cons, List.map_nil]); first | done | rfl | (simp only [List.length_drop, List.length_take]; rfl)) ?_; (with_reducible refine (errors_New.calls (⟨#[115, 116, 114, 105, 110, 103, 32, 99, 97, 110, 110, 111, 116, 32, 99, 111, 110, 116, 97, 105, 110, 32, 99, 111, 110, 116, 114, 111, 108, 32, 99, 104, 97, 114, 32, 48, 120]⟩ : ByteArray) t356 _ A32.out).mono ?_); rintro e w33 ⟨evt356, rfl, hb⟩; refine ⟨_, rfl, ?_⟩; have n0_ := Aside0.mk (below_step (by repeat (first | (with_reducible first | exact HB.out | apply below_alloc | apply pw_below_drewN | apply below_drew1) | exact HB.out)) hb); clear HB; have HB := n0_; clear n0_; (try clear hb); (try clear hb2); (try clear hk); (try clear hi); (try simp only [errX_none, errX_some])))
          go_ret2
          first | exact ⟨evt356, by first | rfl | (simp [errX_none, errX_some] <;> rfl) | (simp [*, errX_none, errX_some] <;> rfl), by repeat (first | (with_reducible first | exact HB.out | apply below_alloc | apply pw_below_drewN | apply below_drew1) | exact HB.out)⟩ | exact ⟨⟨(evt356).1, (evt356).2, by first | rfl | (simp [errX_none, errX_some] <;> rfl) | (simp [*, errX_none, errX_some] <;> rfl)⟩, by repeat (first | (with_reducible first | exact HB.out | apply below_alloc | apply pw_below_drewN | apply below_drew1) | exact HB.out)⟩
         rw [if_neg c31] at H
         have c31b0 : decide ((bt t352 x63_1) < 32) = false := decide_eq_false c31
         clear c31
         have H' := Aside0.mk H
         clear H
         have p30 : 0 ≤ (x63_1 : Int) := of_decide_eq_true (by first | (with_reducible assumption) | assumption)
         have q30 : x63_1 < (t352.size : Int) := of_decide_eq_true (by first | (with_reducible assumption) | assumption)
         have hx30 := bt_at t352 x63_1
         replace p30 := eq_true p30
         replace q30 := eq_true q30
         go_wp2
         go_roundg k1
         case measure => have := HK1.out; omega
         case rel => exact ⟨(wrap64 (x63_1 + 1)), (by first | rfl | (simp; done) | (simp [nil_ne_, nil_eq_]; done) | (simp [*]; done)), H', ⟨by have := HK1.out; omega⟩, ⟨by repeat (first | (with_reducible first | exact HB.out | apply below_alloc | apply pw_below_drewN | apply below_drew1) | exact HB.out)⟩⟩
        rw [if_neg c29] at H
        exact absurd H (by simp)
       rw [if_neg c28] at H
       exact absurd H (by simp)
      rw [if_neg c27] at H
      have c27b0 : decide (x63_1 < (t352.size : Int)) = false := decide_eq_false c27
      clear c27
      simp only [Option.some.injEq, Prod.mk.injEq] at H
      obtain ⟨rfl, rfl⟩ := H
      go_wp2
      go_ret2
      first | exact ⟨(0, Value.nilIface), by first | rfl | (simp [errX_none, errX_some] <;> rfl) | (simp [*, errX_none, errX_some] <;> rfl), by repeat (first | (with_reducible first | exact HB.out | apply below_alloc | apply pw_below_drewN | apply below_drew1) | exact HB.out)⟩ | exact ⟨⟨((0, Value.nilIface)).1, ((0, Value.nilIface)).2, by first | rfl | (simp [errX_none, errX_some] <;> rfl) | (simp [*, errX_none, errX_some] <;> rfl)⟩, by repeat (first | (with_reducible first | exact HB.out | apply below_alloc | apply pw_below_drewN | apply below_drew1) | exact HB.out)⟩
    have H1 : ((errors_New.f (⟨#[99, 97, 110, 110, 111, 116, 32, 112, 97, 114, 115, 101, 32, 115, 116, 114, 105, 110, 103]⟩ : ByteArray)).bind fun t357 => (some (t353, t357))) = some (r1, r2) := by rw [if_neg (show ¬ (some q355).isNone = true by simp)] at H; exact H
    clear H
    have H := H1
    clear H1
    try simp only [errX_none, errX_some]
    replace H := Option.bind_eq_some_iff.mp H
    obtain ⟨t357, A340, H⟩ := H
    replace H : (some (t353, t357)) = some (r1, r2) := H
    have A34 := Aside0.mk A340
    clear A340
    simp only [Option.some.injEq, Prod.mk.injEq] at H
    obtain ⟨rfl, rfl⟩ := H
    have p6 : 0 ≤ (0 : Int) := (by omega)
    have q6 : 0 < a0.size := (by have : (0 : Int) < (a0.size : Int) := of_decide_eq_true (by first | (with_reducible assumption) | assumption); omega)
    have hx6 := bt_lit a0 0 0 rfl
    clear p6
    have qi6 : (0 < (a0.size : Int)) = True := eq_true (of_decide_eq_true (by first | (with_reducible assumption) | assumption))
    replace q6 := eq_true q6
    have p14 : 0 ≤ (0 : Int) := (by omega)
    have q14 : 0 < a0.size := (by have : (0 : Int) < (a0.size : Int) := of_decide_eq_true (by first | (with_reducible assumption) | assumption); omega)
    have hx14 := bt_lit a0 0 0 rfl
    clear p14
    have qi14 : (0 < (a0.size : Int)) = True := eq_true (of_decide_eq_true (by first | (with_reducible assumption) | assumption))
    replace q14 := eq_true q14
    have p22 : 0 ≤ (0 : Int) := (by omega)
    have q22 : 0 < a0.size := (by have : (0 : Int) < (a0.size : Int) := of_decide_eq_true (by first | (with_reducible assumption) | assumption); omega)
    have hx22 := bt_lit a0 0 0 rfl
    clear p22
    have qi22 : (0 < (a0.size : Int)) = True := eq_true (of_decide_eq_true (by first | (with_reducible assumption) | assumption))
    replace q22 := eq_true q22
    go_enter Tryd.func36, Tryd.ntmps36
    go_wp2_with (first | ((with_reducible refine gate_callee (f := 56) rfl ?_); refine goesL_ (some 53) rfl rfl Tryd.func56 (by kernel_rfl) rfl #[.string (a0.extract 1 a0.size)] rfl (by (try simp only [List.map_toArray, List.map_cons, List.map_nil]); first | done | rfl | (simp only [List.length_drop, List.length_take]; rfl)) ?_; (with_reducible refine (fastjson_validateString.calls k (a0.extract 1 a0.size) t352 t353 (some q355) _ A25.out (HG.out.below (by repeat (first | (with_reducible first | exact HB.out | apply below_alloc | apply pw_below_drewN | apply below_drew1) | exact HB.out)))).mono ?_); rintro e w35 ⟨evt354, rfl, hb⟩; refine ⟨_, rfl, ?_⟩; have n0_ := Aside0.mk (below_step (by repeat (first | (with_reducible first | exact HB.out | apply below_alloc | apply pw_below_drewN | apply below_drew1) | exact HB.out)) hb); clear HB; have HB := n0_; clear n0_; (try clear hb); (try clear hb2); (try clear hk); (try clear hi); (try simp only [errX_none, errX_some])) | ((with_reducible refine gate_callee (f := 37) rfl ?_); refine goesL_ (some 60) rfl rfl Tryd.func37 (by kernel_rfl) rfl #[.string (⟨#[99, 97, 110, 110, 111, 116, 32, 112, 97, 114, 115, 101, 32, 115, 116, 114, 105, 110, 103]⟩ : ByteArray)] rfl (by (try simp only [List.map_toArray, List.map_cons, List.map_nil]); first | done | rfl | (simp only [List.length_drop, List.length_take]; rfl)) ?_; (with_reducible refine (errors_New.calls (⟨#[99, 97, 110, 110, 111, 116, 32, 112, 97, 114, 115, 101, 32, 115, 116, 114, 105, 110, 103]⟩ : ByteArray) t357 _ A34.out).mono ?_); rintro e w36 ⟨evt357, rfl, hb⟩; refine ⟨_, rfl, ?_⟩; have n0_ := Aside0.mk (below_step (by repeat (first | (with_reducible first | exact HB.out | apply below_alloc | apply pw_below_drewN | apply below_drew1) | exact HB.out)) hb); clear HB; have HB := n0_; clear n0_; (try clear hb); (try clear hb2); (try clear hk); (try clear hi); (try simp only [errX_none, errX_some])))
    go_ret2
    first | exact ⟨evt357, by first | rfl | (simp [errX_none, errX_some] <;> rfl) | (simp [*, errX_none, errX_some] <;> rfl), by repeat (first | (with_reducible first | exact HB.out | apply below_alloc | apply pw_below_drewN | apply below_drew1) | exact HB.out)⟩ | exact ⟨⟨(evt357).1, (evt357).2, by first | rfl | (simp [errX_none, errX_some] <;> rfl) | (simp [*, errX_none, errX_some] <;> rfl)⟩, by repeat (first | (with_reducible first | exact HB.out | apply below_alloc | apply pw_below_drewN | apply below_drew1) | exact HB.out)⟩
   rw [if_neg c24] at H
   exact absurd H (by simp)
  rw [if_neg c23] at H
  have c23b0 : ((bt a0 0) == 34) = false := beq_eq_false_iff_ne.mpr c23
  have c23b1 : ((bt a0 0) != 34) = true := bne_iff_ne.mpr c23
  by_cases c38 : (bt a0 0) = 116
  ·
   rw [if_pos c38] at H
   have c38b0 : ((bt a0 0) == 116) = true := beq_iff_eq.mpr c38
   have c38b1 : ((bt a0 0) != 116) = false := bne_eq_false_iff_eq.mpr c38
   clear c38
   by_cases c39 : (a0.size : Int) < 4
   ·
    rw [if_pos c39] at H
    have c39b0 : decide ((a0.size : Int) < 4) = true := decide_eq_true c39
    have c39b1 : decide (a0.size < 4) = true := decide_eq_true (by omega)
    clear c39
    replace H := Option.bind_eq_some_iff.mp H
    obtain ⟨t358, A400, H⟩ := H
    replace H : (some (a0, t358)) = some (r1, r2) := H
    have A40 := Aside0.mk A400
    clear A400
    simp only [Option.some.injEq, Prod.mk.injEq] at H
    obtain ⟨rfl, rfl⟩ := H
    have p6 : 0 ≤ (0 : Int) := (by omega)
    have q6 : 0 < a0.size := (by have : (0 : Int) < (a0.size : Int) := of_decide_eq_true (by first | (with_reducible assumption) | assumption); omega)
    have hx6 := bt_lit a0 0 0 rfl
    clear p6
    have qi6 : (0 < (a0.size : Int)) = True := eq_true (of_decide_eq_true (by first | (with_reducible assumption) | assumption))
    replace q6 := eq_true q6
    have p14 : 0 ≤ (0 : Int) := (by omega)
    have q14 : 0 < a0.size := (by have : (0 : Int) < (a0.size : Int) := of_decide_eq_true (by first | (with_reducible assumption) | assumption); omega)
    have hx14 := bt_lit a0 0 0 rfl
    clear p14
    have qi14 : (0 < (a0.size : Int)) = True := eq_true (of_decide_eq_true (by first | (with_reducible assumption) | assumption))
    replace q14 := eq_true q14
    have p22 : 0 ≤ (0 : Int) := (by omega)
    have q22 : 0 < a0.size := (by have : (0 : Int) < (a0.size : Int) := of_decide_eq_true (by first | (with_reducible assumption) | assumption); omega)
    have hx22 := bt_lit a0 0 0 rfl
    clear p22
    have qi22 : (0 < (a0.size : Int)) = True := eq_true (of_decide_eq_true (by first | (with_reducible assumption) | assumption))
    replace q22 := eq_true q22
    have p37 : 0 ≤ (0 : Int) := (by omega)
    have q37 : 0 < a0.size := (by have : (0 : Int) < (a0.size : Int) := of_decide_eq_true (by first | (with_reducible assumption) | assumption); omega)
    have hx37 := bt_lit a0 0 0 rfl
    clear p37
    have qi37 : (0 < (a0.size : Int)) = True := eq_true (of_decide_eq_true (by first | (with_reducible assumption) | assumption))
    replace q37 := eq_true q37
    go_enter Tryd.func36, Tryd.ntmps36
    go_wp2_with (first | ((with_reducible refine gate_callee (f := 37) rfl ?_); refine goesL_ (some 86) rfl rfl Tryd.func37 (by kernel_rfl) rfl #[.string (⟨#[117, 110, 101, 120, 112, 101, 99, 116, 101, 100, 32, 118, 97, 108, 117, 101, 32, 102, 111, 117, 110, 100]⟩ : ByteArray)] rfl (by (try simp only [List.map_toArray, List.map_cons, List.map_nil]); first | done | rfl | (simp only [List.length_drop, List.length_take]; rfl)) ?_; (with_reducible refine (errors_New.calls (⟨#[117, 110, 101, 120, 112, 101, 99, 116, 101, 100, 32, 118, 97, 108, 117, 101, 32, 102, 111, 117, 110, 100]⟩ : ByteArray) t358 _ A40.out).mono ?_); rintro e w41 ⟨evt358, rfl, hb⟩; refine ⟨_, rfl, ?_⟩; have n0_ := Aside0.mk (below_step (by repeat (first | (with_reducible first | exact HB.out | apply below_alloc | apply pw_below_drewN | apply below_drew1) | exact HB.out)) hb); clear HB; have HB := n0_; clear n0_; (try clear hb); (try clear hb2); (try clear hk); (try clear hi); (try simp only [errX_none, errX_some])))
    go_ret2
    first | exact ⟨evt358, by first | rfl | (simp [errX_none, errX_some] <;> rfl) | (simp [*, errX_none, errX_some] <;> rfl), by repeat (first | (with_reducible first | exact HB.out | apply below_alloc | apply pw_below_drewN | apply below_drew1) | exact HB.out)⟩ | exact ⟨⟨(evt358).1, (evt358).2, by first | rfl | (simp [errX_none, errX_some] <;> rfl) | (simp [*, errX_none, errX_some] <;> rfl)⟩, by repeat (first | (with_reducible first | exact HB.out | apply below_alloc | apply pw_below_drewN | apply below_drew1) | exact HB.out)⟩
   rw [if_neg c39] at H
   have c39b0 : decide ((a0.size : Int) < 4) = false := decide_eq_false c39
   have c39b1 : decide (a0.size < 4) = false := decide_eq_false (by omega)
   clear c39
   by_cases c42 : 0 ≤ 4
   ·
    rw [if_pos c42] at H
    have c42b0 := eq_true c42
    have c42b1 : decide (0 ≤ 4) = true := decide_eq_true c42
    clear c42
    by_cases c43 : 4 ≤ (a0.size : Int)
    ·
     rw [if_pos c43] at H
     have c43b0 := eq_true c43
     have c43b1 : decide (4 ≤ (a0.size : Int)) = true := decide_eq_true c43
     clear c43
     by_cases c44 : (a0.extract 0 4).toList = ([116, 114, 117, 101] : List UInt8)
     ·
      rw [if_pos c44] at H
      have c44b0 : ((a0.extract 0 4).toList == ([116, 114, 117, 101] : List UInt8)) = true := beq_iff_eq.mpr c44
      have c44b1 : ((a0.extract 0 4).toList != ([116, 114, 117, 101] : List UInt8)) = false := bne_eq_false_iff_eq.mpr c44
      clear c44
      have c45b0 := eq_true (of_decide_eq_true (by first | (with_reducible assumption) | assumption) : 4 ≤ (a0.size : Int))
      simp only [Option.some.injEq, Prod.mk.injEq] at H
      obtain ⟨rfl, rfl⟩ := H
      have p6 : 0 ≤ (0 : Int) := (by omega)
      have q6 : 0 < a0.size := (by have : (0 : Int) < (a0.size : Int) := of_decide_eq_true (by first | (with_reducible assumption) | assumption); omega)
      have hx6 := bt_lit a0 0 0 rfl
      clear p6
      have qi6 : (0 < (a0.size : Int)) = True := eq_true (of_decide_eq_true (by first | (with_reducible assumption) | assumption))
      replace q6 := eq_true q6
      have p14 : 0 ≤ (0 : Int) := (by omega)
      have q14 : 0 < a0.size := (by have : (0 : Int) < (a0.size : Int) := of_decide_eq_true (by first | (with_reducible assumption) | assumption); omega)
      have hx14 := bt_lit a0 0 0 rfl
      clear p14
      have qi14 : (0 < (a0.size : Int)) = True := eq_true (of_decide_eq_true (by first | (with_reducible assumption) | assumption))
      replace q14 := eq_true q14
      have p22 : 0 ≤ (0 : Int) := (by omega)
      have q22 : 0 < a0.size := (by have : (0 : Int) < (a0.size : Int) := of_decide_eq_true (by first | (with_reducible assumption) | assumption); omega)
      have hx22 := bt_lit a0 0 0 rfl
      clear p22
      have qi22 : (0 < (a0.size : Int)) = True := eq_true (of_decide_eq_true (by first | (with_reducible assumption) | assumption))
      replace q22 := eq_true q22
      have p37 : 0 ≤ (0 : Int) := (by omega)
      have q37 : 0 < a0.size := (by have : (0 : Int) < (a0.size : Int) := of_decide_eq_true (by first | (with_reducible assumption) | assumption); omega)
      have hx37 := bt_lit a0 0 0 rfl
      clear p37
      have qi37 : (0 < (a0.size : Int)) = True := eq_true (of_decide_eq_true (by first | (with_reducible assumption) | assumption))
      replace q37 := eq_true q37
      go_enter Tryd.func36, Tryd.ntmps36
      go_wp2
      go_ret2
      first | exact ⟨(0, Value.nilIface), by first | rfl | (simp [errX_none, errX_some] <;> rfl) | (simp [*, errX_none, errX_some] <;> rfl), by repeat (first | (with_reducible first | exact HB.out | apply below_alloc | apply pw_below_drewN | apply below_drew1) | exact HB.out)⟩ | exact ⟨⟨((0, Value.nilIface)).1, ((0, Value.nilIface)).2, by first | rfl | (simp [errX_none, errX_some] <;> rfl) | (simp [*, errX_none, errX_some] <;> rfl)⟩, by repeat (first | (with_reducible first | exact HB.out | apply below_alloc | apply pw_below_drewN | apply below_drew1) | exact HB.out)⟩
     rw [if_neg c44] at H
     have c44b0 : ((a0.extract 0 4).toList == ([116, 114, 117, 101] : List UInt8)) = false := beq_eq_false_iff_ne.mpr c44
     have c44b1 : ((a0.extract 0 4).toList != ([116, 114, 117, 101] : List UInt8)) = true := bne_iff_ne.mpr c44
     replace H := Option.bind_eq_some_iff.mp H
     obtain ⟨t359, A460, H⟩ := H
     replace H : (some (a0, t359)) = some (r1, r2) := H
     have A46 := Aside0.mk A460
     clear A460
     simp only [Option.some.injEq, Prod.mk.injEq] at H
     obtain ⟨rfl, rfl⟩ := H
     have p6 : 0 ≤ (0 : Int) := (by omega)
     have q6 : 0 < a0.size := (by have : (0 : Int) < (a0.size : Int) := of_decide_eq_true (by first | (with_reducible assumption) | assumption); omega)
     have hx6 := bt_lit a0 0 0 rfl
     clear p6
     have qi6 : (0 < (a0.size : Int)) = True := eq_true (of_decide_eq_true (by first | (with_reducible assumption) | assumption))
     replace q6 := eq_true q6
     have p14 : 0 ≤ (0 : Int) := (by omega)
     have q14 : 0 < a0.size := (by have : (0 : Int) < (a0.size : Int) := of_decide_eq_true (by first | (with_reducible assumption) | assumption); omega)
     have hx14 := bt_lit a0 0 0 rfl
     clear p14
     have qi14 : (0 < (a0.size : Int)) = True := eq_true (of_decide_eq_true (by first | (with_reducible assumption) | assumption))
     replace q14 := eq_true q14
     have p22 : 0 ≤ (0 : Int) := (by omega)
     have q22 : 0 < a0.size := (by have : (0 : Int) < (a0.size : Int) := of_decide_eq_true (by first | (with_reducible assumption) | assumption); omega)
     have hx22 := bt_lit a0 0 0 rfl
     clear p22
     have qi22 : (0 < (a0.size : Int)) = True := eq_true (of_decide_eq_true (by first | (with_reducible assumption) | assumption))
     replace q22 := eq_true q22
     have p37 : 0 ≤ (0 : Int) := (by omega)
     have q37 : 0 < a0.size := (by have : (0 : Int) < (a0.size : Int) := of_decide_eq_true (by first | (with_reducible assumption) | assumption); omega)
     have hx37 := bt_lit a0 0 0 rfl
     clear p37
     have qi37 : (0 < (a0.size : Int)) = True := eq_true (of_decide_eq_true (by first | (with_reducible assumption) | assumption))
     replace q37 := eq_true q37
     go_enter Tryd.func36, Tryd.ntmps36
     go_wp2_with (first | ((with_reducible refine gate_callee (f := 37) rfl ?_); refine goesL_ (some 86) rfl rfl Tryd.func37 (by kernel_rfl) rfl #[.string (⟨#[117, 110, 101, 120, 112, 101, 99, 116, 101, 100, 32, 118, 97, 108, 117, 101, 32, 102, 111, 117, 110, 100]⟩ : ByteArray)] rfl (by (try simp only [List.map_toArray, List.map_cons, List.map_nil]); first | done | rfl | (simp only [List.length_drop, List.length_take]; rfl)) ?_; (with_reducible refine (errors_New.calls (⟨#[117, 110, 101, 120, 112, 101, 99, 116, 101, 100, 32, 118, 97, 108, 117, 101, 32, 102, 111, 117, 110, 100]⟩ : ByteArray) t359 _ A46.out).mono ?_); rintro e w47 ⟨evt359, rfl, hb⟩; refine ⟨_, rfl, ?_⟩; have n0_ := Aside0.mk (below_step (by repeat (first | (with_reducible first | exact HB.out | apply below_alloc | apply pw_below_drewN | apply below_drew1) | exact HB.out)) hb); clear HB; have HB := n0_; clear n0_; (try clear hb); (try clear hb2); (try clear hk); (try clear hi); (try simp only [errX_none, errX_some])))
     go_ret2
     first | exact ⟨evt359, by first | rfl | (simp [errX_none, errX_some] <;> rfl) | (simp [*, errX_none, errX_some] <;> rfl), by repeat (first | (with_reducible first | exact HB.out | apply below_alloc | apply pw_below_drewN | apply below_drew1) | exact HB.out)⟩ | exact ⟨⟨(evt359).1, (evt359).2, by first | rfl | (simp [errX_none, errX_some] <;> rfl) | (simp [*, errX_none, errX_some] <;> rfl)⟩, by repeat (first | (with_reducible first | exact HB.out | apply below_alloc | apply pw_below_drewN | apply below_drew1) | exact HB.out)⟩
    rw [if_neg c43] at H
    exact absurd H (by simp)
   rw [if_neg c42] at H
   exact absurd H (by simp)
  rw [if_neg c38] at H
  have c38b0 : ((bt a0 0) == 116) = false := beq_eq_false_iff_ne.mpr c38
  have c38b1 : ((bt a0 0) != 116) = true := bne_iff_ne.mpr c38
  by_cases c49 : (bt a0 0) = 102
  ·
   rw [if_pos c49] at H
   have c49b0 : ((bt a0 0) == 102) = true := beq_iff_eq.mpr c49
   have c49b1 : ((bt a0 0) != 102) = false := bne_eq_false_iff_eq.mpr c49
   clear c49
   by_cases c50 : (a0.size : Int) < 5
   ·
    rw [if_pos c50] at H
    have c50b0 : decide ((a0.size : Int) < 5) = true := decide_eq_true c50
    have c50b1 : decide (a0.size < 5) = true := decide_eq_true (by omega)
    clear c50
    replace H := Option.bind_eq_some_iff.mp H
    obtain ⟨t360, A510, H⟩ := H
    replace H : (some (a0, t360)) = some (r1, r2) := H
    have A51 := Aside0.mk A510
    clear A510
    simp only [Option.some.injEq, Prod.mk.injEq] at H
    obtain ⟨rfl, rfl⟩ := H
    have p6 : 0 ≤ (0 : Int) := (by omega)
    have q6 : 0 < a0.size := (by have : (0 : Int) < (a0.size : Int) := of_decide_eq_true (by first | (with_reducible assumption) | assumption); omega)
    have hx6 := bt_lit a0 0 0 rfl
    clear p6
    have qi6 : (0 < (a0.size : Int)) = True := eq_true (of_decide_eq_true (by first | (with_reducible assumption) | assumption))
    replace q6 := eq_true q6
    have p14 : 0 ≤ (0 : Int) := (by omega)
    have q14 : 0 < a0.size := (by have : (0 : Int) < (a0.size : Int) := of_decide_eq_true (by first | (with_reducible assumption) | assumption); omega)
    have hx14 := bt_lit a0 0 0 rfl
    clear p14
    have qi14 : (0 < (a0.size : Int)) = True := eq_true (of_decide_eq_true (by first | (with_reducible assumption) | assumption))
    replace q14 := eq_true q14
    have p22 : 0 ≤ (0 : Int) := (by omega)
    have q22 : 0 < a0.size := (by have : (0 : Int) < (a0.size : Int) := of_decide_eq_true (by first | (with_reducible assumption) | assumption); omega)
    have hx22 := bt_lit a0 0 0 rfl
    clear p22
    have qi22 : (0 < (a0.size : Int)) = True := eq_true (of_decide_eq_true (by first | (with_reducible assumption) | assumption))
    replace q22 := eq_true q22
    have p37 : 0 ≤ (0 : Int) := (by omega)
    have q37 : 0 < a0.size := (by have : (0 : Int) < (a0.size : Int) := of_decide_eq_true (by first | (with_reducible assumption) | assumption); omega)
    have hx37 := bt_lit a0 0 0 rfl
    clear p37
    have qi37 : (0 < (a0.size : Int)) = True := eq_true (of_decide_eq_true (by first | (with_reducible assumption) | assumption))
    replace q37 := eq_true q37
    have p48 : 0 ≤ (0 : Int) := (by omega)
    have q48 : 0 < a0.size := (by have : (0 : Int) < (a0.size : Int) := of_decide_eq_true (by first | (with_reducible assumption) | assumption); omega)
    have hx48 := bt_lit a0 0 0 rfl
    clear p48
    have qi48 : (0 < (a0.size : Int)) = True := eq_true (of_decide_eq_true (by first | (with_reducible assumption) | assumption))
    replace q48 := eq_true q48
    go_enter Tryd.func36, Tryd.ntmps36
    go_wp2_with (first | ((with_reducible refine gate_callee (f := 37) rfl ?_); refine goesL_ (some 101) rfl rfl Tryd.func37 (by kernel_rfl) rfl #[.string (⟨#[117, 110, 101, 120, 112, 101, 99, 116, 101, 100, 32, 118, 97, 108, 117, 101, 32, 102, 111, 117, 110, 100]⟩ : ByteArray)] rfl (by (try simp only [List.map_toArray, List.map_cons, List.map_nil]); first | done | rfl | (simp only [List.length_drop, List.length_take]; rfl)) ?_; (with_reducible refine (errors_New.calls (⟨#[117, 110, 101, 120, 112, 101, 99, 116, 101, 100, 32, 118, 97, 108, 117, 101, 32, 102, 111, 117, 110, 100]⟩ : ByteArray) t360 _ A51.out).mono ?_); rintro e w52 ⟨evt360, rfl, hb⟩; refine ⟨_, rfl, ?_⟩; have n0_ := Aside0.mk (below_step (by repeat (first | (with_reducible first | exact HB.out | apply below_alloc | apply pw_below_drewN | apply below_drew1) | exact HB.out)) hb); clear HB; have HB := n0_; clear n0_; (try clear hb); (try clear hb2); (try clear hk); (try clear hi); (try simp only [errX_none, errX_some])))
    go_ret2
    first | exact ⟨evt360, by first | rfl | (simp [errX_none, errX_some] <;> rfl) | (simp [*, errX_none, errX_some] <;> rfl), by repeat (first | (with_reducible first | exact HB.out | apply below_alloc | apply pw_below_drewN | apply below_drew1) | exact HB.out)⟩ | exact ⟨⟨(evt360).1, (evt360).2, by first | rfl | (simp [errX_none, errX_some] <;> rfl) | (simp [*, errX_none, errX_some] <;> rfl)⟩, by repeat (first | (with_reducible first | exact HB.out | apply below_alloc | apply pw_below_drewN | apply below_drew1) | exact HB.out)⟩
   rw [if_neg c50] at H
   have c50b0 : decide ((a0.size : Int) < 5) = false := decide_eq_false c50
   have c50b1 : decide (a0.size < 5) = false := decide_eq_false (by omega)
   clear c50
   by_cases c53 : 0 ≤ 5
   ·
    rw [if_pos c53] at H
    have c53b0 := eq_true c53
    have c53b1 : decide (0 ≤ 5) = true := decide_eq_true c53
    clear c53
    by_cases c54 : 5 ≤ (a0.size : Int)
    ·
     rw [if_pos c54] at H
     have c54b0 := eq_true c54
     have c54b1 : decide (5 ≤ (a0.size : Int)) = true := decide_eq_true c54
     clear c54
     by_cases c55 : (a0.extract 0 5).toList = ([102, 97, 108, 115, 101] : List UInt8)
     ·
      rw [if_pos c55] at H
      have c55b0 : ((a0.extract 0 5).toList == ([102, 97, 108, 115, 101] : List UInt8)) = true := beq_iff_eq.mpr c55
      have c55b1 : ((a0.extract 0 5).toList != ([102, 97, 108, 115, 101] : List UInt8)) = false := bne_eq_false_iff_eq.mpr c55
      clear c55
      have c56b0 := eq_true (of_decide_eq_true (by first | (with_reducible assumption) | assumption) : 5 ≤ (a0.size : Int))
      simp only [Option.some.injEq, Prod.mk.injEq] at H
      obtain ⟨rfl, rfl⟩ := H
      have p6 : 0 ≤ (0 : Int) := (by omega)
      have q6 : 0 < a0.size := (by have : (0 : Int) < (a0.size : Int) := of_decide_eq_true (by first | (with_reducible assumption) | assumption); omega)
      have hx6 := bt_lit a0 0 0 rfl
      clear p6
      have qi6 : (0 < (a0.size : Int)) = True := eq_true (of_decide_eq_true (by first | (with_reducible assumption) | assumption))
      replace q6 := eq_true q6
      have p14 : 0 ≤ (0 : Int) := (by omega)
      have q14 : 0 < a0.size := (by have : (0 : Int) < (a0.size : Int) := of_decide_eq_true (by first | (with_reducible assumption) | assumption); omega)
      have hx14 := bt_lit a0 0 0 rfl
      clear p14
      have qi14 : (0 < (a0.size : Int)) = True := eq_true (of_decide_eq_true (by first | (with_reducible assumption) | assumption))
      replace q14 := eq_true q14
      have p22 : 0 ≤ (0 : Int) := (by omega)
      have q22 : 0 < a0.size := (by have : (0 : Int) < (a0.size : Int) := of_decide_eq_true (by first | (with_reducible assumption) | assumption); omega)
      have hx22 := bt_lit a0 0 0 rfl
      clear p22
      have qi22 : (0 < (a0.size : Int)) = True := eq_true (of_decide_eq_true (by first | (with_reducible assumption) | assumption))
      replace q22 := eq_true q22
      have p37 : 0 ≤ (0 : Int) := (by omega)
      have q37 : 0 < a0.size := (by have : (0 : Int) < (a0.size : Int) := of_decide_eq_true (by first | (with_reducible assumption) | assumption); omega)
      have hx37 := bt_lit a0 0 0 rfl
      clear p37
      have qi37 : (0 < (a0.size : Int)) = True := eq_true (of_decide_eq_true (by first | (with_reducible assumption) | assumption))
      replace q37 := eq_true q37
      have p48 : 0 ≤ (0 : Int) := (by omega)
      have q48 : 0 < a0.size := (by have : (0 : Int) < (a0.size : Int) := of_decide_eq_true (by first | (with_reducible assumption) | assumption); omega)
      have hx48 := bt_lit a0 0 0 rfl
      clear p48
      have qi48 : (0 < (a0.size : Int)) = True := eq_true (of_decide_eq_true (by first | (with_reducible assumption) | assumption))
      replace q48 := eq_true q48
      go_enter Tryd.func36, Tryd.ntmps36
      go_wp2
      go_ret2
      first | exact ⟨(0, Value.nilIface), by first | rfl | (simp [errX_none, errX_some] <;> rfl) | (simp [*, errX_none, errX_some] <;> rfl), by repeat (first | (with_reducible first | exact HB.out | apply below_alloc | apply pw_below_drewN | apply below_drew1) | exact HB.out)⟩ | exact ⟨⟨((0, Value.nilIface)).1, ((0, Value.nilIface)).2, by first | rfl | (simp [errX_none, errX_some] <;> rfl) | (simp [*, errX_none, errX_some] <;> rfl)⟩, by repeat (first | (with_reducible first | exact HB.out | apply below_alloc | apply pw_below_drewN | apply below_drew1) | exact HB.out)⟩
     rw [if_neg c55] at H
     have c55b0 : ((a0.extract 0 5).toList == ([102, 97, 108, 115, 101] : List UInt8)) = false := beq_eq_false_iff_ne.mpr c55
     have c55b1 : ((a0.extract 0 5).toList != ([102, 97, 108, 115, 101] : List UInt8)) = true := bne_iff_ne.mpr c55
     replace H := Option.bind_eq_some_iff.mp H
     obtain ⟨t361, A570, H⟩ := H
     replace H : (some (a0, t361)) = some (r1, r2) := H
     have A57 := Aside0.mk A570
     clear A570
     simp only [Option.some.injEq, Prod.mk.injEq] at H
     obtain ⟨rfl, rfl⟩ := H
     have p6 : 0 ≤ (0 : Int) := (by omega)
     have q6 : 0 < a0.size := (by have : (0 : Int) < (a0.size : Int) := of_decide_eq_true (by first | (with_reducible assumption) | assumption); omega)
     have hx6 := bt_lit a0 0 0 rfl
     clear p6
     have qi6 : (0 < (a0.size : Int)) = True := eq_true (of_decide_eq_true (by first | (with_reducible assumption) | assumption))
     replace q6 := eq_true q6
     have p14 : 0 ≤ (0 : Int) := (by omega)
     have q14 : 0 < a0.size := (by have : (0 : Int) < (a0.size : Int) := of_decide_eq_true (by first | (with_reducible assumption) | assumption); omega)
     have hx14 := bt_lit a0 0 0 rfl
     clear p14
     have qi14 : (0 < (a0.size : Int)) = True := eq_true (of_decide_eq_true (by first | (with_reducible assumption) | assumption))
     replace q14 := eq_true q14
     have p22 : 0 ≤ (0 : Int) := (by omega)
     have q22 : 0 < a0.size := (by have : (0 : Int) < (a0.size : Int) := of_decide_eq_true (by first | (with_reducible assumption) | assumption); omega)
     have hx22 := bt_lit a0 0 0 rfl
     clear p22
     have qi22 : (0 < (a0.size : Int)) = True := eq_true (of_decide_eq_true (by first | (with_reducible assumption) | assumption))
     replace q22 := eq_true q22
     have p37 : 0 ≤ (0 : Int) := (by omega)
     have q37 : 0 < a0.size := (by have : (0 : Int) < (a0.size : Int) := of_decide_eq_true (by first | (with_reducible assumption) | assumption); omega)
     have hx37 := bt_lit a0 0 0 rfl
     clear p37
     have qi37 : (0 < (a0.size : Int)) = True := eq_true (of_decide_eq_true (by first | (with_reducible assumption) | assumption))
     replace q37 := eq_true q37
     have p48 : 0 ≤ (0 : Int) := (by omega)
     have q48 : 0 < a0.size := (by have : (0 : Int) < (a0.size : Int) := of_decide_eq_true (by first | (with_reducible assumption) | assumption); omega)
     have hx48 := bt_lit a0 0 0 rfl
     clear p48
     have qi48 : (0 < (a0.size : Int)) = True := eq_true (of_decide_eq_true (by first | (with_reducible assumption) | assumption))
     replace q48 := eq_true q48
     go_enter Tryd.func36, Tryd.ntmps36
     go_wp2_with (first | ((with_reducible refine gate_callee (f := 37) rfl ?_); refine goesL_ (some 101) rfl rfl Tryd.func37 (by kernel_rfl) rfl #[.string (⟨#[117, 110, 101, 120, 112, 101, 99, 116, 101, 100, 32, 118, 97, 108, 117, 101, 32, 102, 111, 117, 110, 100]⟩ : ByteArray)] rfl (by (try simp only [List.map_toArray, List.map_cons, List.map_nil]); first | done | rfl | (simp only [List.length_drop, List.length_take]; rfl)) ?_; (with_reducible refine (errors_New.calls (⟨#[117, 110, 101, 120, 112, 101, 99, 116, 101, 100, 32, 118, 97, 108, 117, 101, 32, 102, 111, 117, 110, 100]⟩ : ByteArray) t361 _ A57.out).mono ?_); rintro e w58 ⟨evt361, rfl, hb⟩; refine ⟨_, rfl, ?_⟩; have n0_ := Aside0.mk (below_step (by repeat (first | (with_reducible first | exact HB.out | apply below_alloc | apply pw_below_drewN | apply below_drew1) | exact HB.out)) hb); clear HB; have HB := n0_; clear n0_; (try clear hb); (try clear hb2); (try clear hk); (try clear hi); (try simp only [errX_none, errX_some])))
     go_ret2
     first | exact ⟨evt361, by first | rfl | (simp [errX_none, errX_some] <;> rfl) | (simp [*, errX_none, errX_some] <;> rfl), by repeat (first | (with_reducible first | exact HB.out | apply below_alloc | apply pw_below_drewN | apply below_drew1) | exact HB.out)⟩ | exact ⟨⟨(evt361).1, (evt361).2, by first | rfl | (simp [errX_none, errX_some] <;> rfl) | (simp [*, errX_none, errX_some] <;> rfl)⟩, by repeat (first | (with_reducible first | exact HB.out | apply below_alloc | apply pw_below_drewN | apply below_drew1) | exact HB.out)⟩
    rw [if_neg c54] at H
    exact absurd H (by simp)
   rw [if_neg c53] at H
   exact absurd H (by simp)
  rw [if_neg c49] at H
  have c49b0 : ((bt a0 0) == 102) = false := beq_eq_false_iff_ne.mpr c49
  have c49b1 : ((bt a0 0) != 102) = true := bne_iff_ne.mpr c49
  by_cases c60 : (bt a0 0) = 110
  ·
   rw [if_pos c60] at H
   have c60b0 : ((bt a0 0) == 110) = true := beq_iff_eq.mpr c60
   have c60b1 : ((bt a0 0) != 110) = false := bne_eq_false_iff_eq.mpr c60
   clear c60
   by_cases c61 : (a0.size : Int) < 4
   ·
    rw [if_pos c61] at H
    have c61b0 : decide ((a0.size : Int) < 4) = true := decide_eq_true c61
    have c61b1 : decide (a0.size < 4) = true := decide_eq_true (by omega)
    clear c61
    replace H := Option.bind_eq_some_iff.mp H
    obtain ⟨t362, A620, H⟩ := H
    replace H : (some (a0, t362)) = some (r1, r2) := H
    have A62 := Aside0.mk A620
    clear A620
    simp only [Option.some.injEq, Prod.mk.injEq] at H
    obtain ⟨rfl, rfl⟩ := H
    have p6 : 0 ≤ (0 : Int) := (by omega)
    have q6 : 0 < a0.size := (by have : (0 : Int) < (a0.size : Int) := of_decide_eq_true (by first | (with_reducible assumption) | assumption); omega)
    have hx6 := bt_lit a0 0 0 rfl
    clear p6
    have qi6 : (0 < (a0.size : Int)) = True := eq_true (of_decide_eq_true (by first | (with_reducible assumption) | assumption))
    replace q6 := eq_true q6
    have p14 : 0 ≤ (0 : Int) := (by omega)
    have q14 : 0 < a0.size := (by have : (0 : Int) < (a0.size : Int) := of_decide_eq_true (by first | (with_reducible assumption) | assumption); omega)
    have hx14 := bt_lit a0 0 0 rfl
    clear p14
    have qi14 : (0 < (a0.size : Int)) = True := eq_true (of_decide_eq_true (by first | (with_reducible assumption) | assumption))
    replace q14 := eq_true q14
    have p22 : 0 ≤ (0 : Int) := (by omega)
    have q22 : 0 < a0.size := (by have : (0 : Int) < (a0.size : Int) := of_decide_eq_true (by first | (with_reducible assumption) | assumption); omega)
    have hx22 := bt_lit a0 0 0 rfl
    clear p22
    have qi22 : (0 < (a0.size : Int)) = True := eq_true (of_decide_eq_true (by first | (with_reducible assumption) | assumption))
    replace q22 := eq_true q22
    have p37 : 0 ≤ (0 : Int) := (by omega)
    have q37 : 0 < a0.size := (by have : (0 : Int) < (a0.size : Int) := of_decide_eq_true (by first | (with_reducible assumption) | assumption); omega)
    have hx37 := bt_lit a0 0 0 rfl
    clear p37
    have qi37 : (0 < (a0.size : Int)) = True := eq_true (of_decide_eq_true (by first | (with_reducible assumption) | assumption))
    replace q37 := eq_true q37
    have p48 : 0 ≤ (0 : Int) := (by omega)
    have q48 : 0 < a0.size := (by have : (0 : Int) < (a0.size : Int) := of_decide_eq_true (by first | (with_reducible assumption) | assumption); omega)
    have hx48 := bt_lit a0 0 0 rfl
    clear p48
    have qi48 : (0 < (a0.size : Int)) = True := eq_true (of_decide_eq_true (by first | (with_reducible assumption) | assumption))
    replace q48 := eq_true q48
    have p59 : 0 ≤ (0 : Int) := (by omega)
    have q59 : 0 < a0.size := (by have : (0 : Int) < (a0.size : Int) := of_decide_eq_true (by first | (with_reducible assumption) | assumption); omega)
    have hx59 := bt_lit a0 0 0 rfl
    clear p59
    have qi59 : (0 < (a0.size : Int)) = True := eq_true (of_decide_eq_true (by first | (with_reducible assumption) | assumption))
    replace q59 := eq_true q59
    go_enter Tryd.func36, Tryd.ntmps36
    go_wp2_with (first | ((with_reducible refine gate_callee (f := 37) rfl ?_); refine goesL_ (some 116) rfl rfl Tryd.func37 (by kernel_rfl) rfl #[.string (⟨#[117, 110, 101, 120, 112, 101, 99, 116, 101, 100, 32, 118, 97, 108, 117, 101, 32, 102, 111, 117, 110, 100]⟩ : ByteArray)] rfl (by (try simp only [List.map_toArray, List.map_cons, List.map_nil]); first | done | rfl | (simp only [List.length_drop, List.length_take]; rfl)) ?_; (with_reducible refine (errors_New.calls (⟨#[117, 110, 101, 120, 112, 101, 99, 116, 101, 100, 32, 118, 97, 108, 117, 101, 32, 102, 111, 117, 110, 100]⟩ : ByteArray) t362 _ A62.out).mono ?_); rintro e w63 ⟨evt362, rfl, hb⟩; refine ⟨_, rfl, ?_⟩; have n0_ := Aside0.mk (below_step (by repeat (first | (with_reducible first | exact HB.out | apply below_alloc | apply pw_below_drewN | apply below_drew1) | exact HB.out)) hb); clear HB; have HB := n0_; clear n0_; (try clear hb); (try clear hb2); (try clear hk); (try clear hi); (try simp only [errX_none, errX_some])))
    go_ret2
    first | exact ⟨evt362, by first | rfl | (simp [errX_none, errX_some] <;> rfl) | (simp [*, errX_none, errX_some] <;> rfl), by repeat (first | (with_reducible first | exact HB.out | apply below_alloc | apply pw_below_drewN | apply below_drew1) | exact HB.out)⟩ | exact ⟨⟨(evt362).1, (evt362).2, by first | rfl | (simp [errX_none, errX_some] <;> rfl) | (simp [*, errX_none, errX_some] <;> rfl)⟩, by repeat (first | (with_reducible first | exact HB.out | apply below_alloc | apply pw_below_drewN | apply below_drew1) | exact HB.out)⟩
   rw [if_neg c61] at H
   have c61b0 : decide ((a0.size : Int) < 4) = false := decide_eq_false c61
   have c61b1 : decide (a0.size < 4) = false := decide_eq_false (by omega)
   clear c61
   by_cases c64 : 0 ≤ 4
   ·
    rw [if_pos c64] at H
    have c64b0 := eq_true c64
    have c64b1 : decide (0 ≤ 4) = true := decide_eq_true c64
    clear c64
    by_cases c65 : 4 ≤ (a0.size : Int)
    ·
     rw [if_pos c65] at H
     have c65b0 := eq_true c65
     have c65b1 : decide (4 ≤ (a0.size : Int)) = true := decide_eq_true c65
     clear c65
     by_cases c66 : (a0.extract 0 4).toList = ([110, 117, 108, 108] : List UInt8)
     ·
      rw [if_pos c66] at H
      have c66b0 : ((a0.extract 0 4).toList == ([110, 117, 108, 108] : List UInt8)) = true := beq_iff_eq.mpr c66
      have c66b1 : ((a0.extract 0 4).toList != ([110, 117, 108, 108] : List UInt8)) = false := bne_eq_false_iff_eq.mpr c66
      clear c66
      have c67b0 := eq_true (of_decide_eq_true (by first | (with_reducible assumption) | assumption) : 4 ≤ (a0.size : Int))
      simp only [Option.some.injEq, Prod.mk.injEq] at H
      obtain ⟨rfl, rfl⟩ := H
      have p6 : 0 ≤ (0 : Int) := (by omega)
      have q6 : 0 < a0.size := (by have : (0 : Int) < (a0.size : Int) := of_decide_eq_true (by first | (with_reducible assumption) | assumption); omega)
      have hx6 := bt_lit a0 0 0 rfl
      clear p6
      have qi6 : (0 < (a0.size : Int)) = True := eq_true (of_decide_eq_true (by first | (with_reducible assumption) | assumption))
      replace q6 := eq_true q6
      have p14 : 0 ≤ (0 : Int) := (by omega)
      have q14 : 0 < a0.size := (by have : (0 : Int) < (a0.size : Int) := of_decide_eq_true (by first | (with_reducible assumption) | assumption); omega)
      have hx14 := bt_lit a0 0 0 rfl
      clear p14
      have qi14 : (0 < (a0.size : Int)) = True := eq_true (of_decide_eq_true (by first | (with_reducible assumption) | assumption))
      replace q14 := eq_true q14
      have p22 : 0 ≤ (0 : Int) := (by omega)
      have q22 : 0 < a0.size := (by have : (0 : Int) < (a0.size : Int) := of_decide_eq_true (by first | (with_reducible assumption) | assumption); omega)
      have hx22 := bt_lit a0 0 0 rfl
      clear p22
      have qi22 : (0 < (a0.size : Int)) = True := eq_true (of_decide_eq_true (by first | (with_reducible assumption) | assumption))
      replace q22 := eq_true q22
      have p37 : 0 ≤ (0 : Int) := (by omega)
      have q37 : 0 < a0.size := (by have : (0 : Int) < (a0.size : Int) := of_decide_eq_true (by first | (with_reducible assumption) | assumption); omega)
      have hx37 := bt_lit a0 0 0 rfl
      clear p37
      have qi37 : (0 < (a0.size : Int)) = True := eq_true (of_decide_eq_true (by first | (with_reducible assumption) | assumption))
      replace q37 := eq_true q37
      have p48 : 0 ≤ (0 : Int) := (by omega)
      have q48 : 0 < a0.size := (by have : (0 : Int) < (a0.size : Int) := of_decide_eq_true (by first | (with_reducible assumption) | assumption); omega)
      have hx48 := bt_lit a0 0 0 rfl
      clear p48
      have qi48 : (0 < (a0.size : Int)) = True := eq_true (of_decide_eq_true (by first | (with_reducible assumption) | assumption))
      replace q48 := eq_true q48
      have p59 : 0 ≤ (0 : Int) := (by omega)
      have q59 : 0 < a0.size := (by have : (0 : Int) < (a0.size : Int) := of_decide_eq_true (by first | (with_reducible assumption) | assumption); omega)
      have hx59 := bt_lit a0 0 0 rfl
      clear p59
      have qi59 : (0 < (a0.size : Int)) = True := eq_true (of_decide_eq_true (by first | (with_reducible assumption) | assumption))
      replace q59 := eq_true q59
      go_enter Tryd.func36, Tryd.ntmps36
      go_wp2
      go_ret2
      first | exact ⟨(0, Value.nilIface), by first | rfl | (simp [errX_none, errX_some] <;> rfl) | (simp [*, errX_none, errX_some] <;> rfl), by repeat (first | (with_reducible first | exact HB.out | apply below_alloc | apply pw_below_drewN | apply below_drew1) | exact HB.out)⟩ | exact ⟨⟨((0, Value.nilIface)).1, ((0, Value.nilIface)).2, by first | rfl | (simp [errX_none, errX_some] <;> rfl) | (simp [*, errX_none, errX_some] <;> rfl)⟩, by repeat (first | (with_reducible first | exact HB.out | apply below_alloc | apply pw_below_drewN | apply below_drew1) | exact HB.out)⟩
     rw [if_neg c66] at H
     have c66b0 : ((a0.extract 0 4).toList == ([110, 117, 108, 108] : List UInt8)) = false := beq_eq_false_iff_ne.mpr c66
     have c66b1 : ((a0.extract 0 4).toList != ([110, 117, 108, 108] : List UInt8)) = true := bne_iff_ne.mpr c66
     replace H := Option.bind_eq_some_iff.mp H
     obtain ⟨t363, A680, H⟩ := H
     replace H : (some (a0, t363)) = some (r1, r2) := H
     have A68 := Aside0.mk A680
     clear A680
     simp only [Option.some.injEq, Prod.mk.injEq] at H
     obtain ⟨rfl, rfl⟩ := H
     have p6 : 0 ≤ (0 : Int) := (by omega)
     have q6 : 0 < a0.size := (by have : (0 : Int) < (a0.size : Int) := of_decide_eq_true (by first | (with_reducible assumption) | assumption); omega)
     have hx6 := bt_lit a0 0 0 rfl
     clear p6
     have qi6 : (0 < (a0.size : Int)) = True := eq_true (of_decide_eq_true (by first | (with_reducible assumption) | assumption))
     replace q6 := eq_true q6
     have p14 : 0 ≤ (0 : Int) := (by omega)
     have q14 : 0 < a0.size := (by have : (0 : Int) < (a0.size : Int) := of_decide_eq_true (by first | (with_reducible assumption) | assumption); omega)
     have hx14 := bt_lit a0 0 0 rfl
     clear p14
     have qi14 : (0 < (a0.size : Int)) = True := eq_true (of_decide_eq_true (by first | (with_reducible assumption) | assumption))
     replace q14 := eq_true q14
     have p22 : 0 ≤ (0 : Int) := (by omega)
     have q22 : 0 < a0.size := (by have : (0 : Int) < (a0.size : Int) := of_decide_eq_true (by first | (with_reducible assumption) | assumption); omega)
     have hx22 := bt_lit a0 0 0 rfl
     clear p22
     have qi22 : (0 < (a0.size : Int)) = True := eq_true (of_decide_eq_true (by first | (with_reducible assumption) | assumption))
     replace q22 := eq_true q22
     have p37 : 0 ≤ (0 : Int) := (by omega)
     have q37 : 0 < a0.size := (by have : (0 : Int) < (a0.size : Int) := of_decide_eq_true (by first | (with_reducible assumption) | assumption); omega)
     have hx37 := bt_lit a0 0 0 rfl
     clear p37
     have qi37 : (0 < (a0.size : Int)) = True := eq_true (of_decide_eq_true (by first | (with_reducible assumption) | assumption))
     replace q37 := eq_true q37
     have p48 : 0 ≤ (0 : Int) := (by omega)
     have q48 : 0 < a0.size := (by have : (0 : Int) < (a0.size : Int) := of_decide_eq_true (by first | (with_reducible assumption) | assumption); omega)
     have hx48 := bt_lit a0 0 0 rfl
     clear p48
     have qi48 : (0 < (a0.size : Int)) = True := eq_true (of_decide_eq_true (by first | (with_reducible assumption) | assumption))
     replace q48 := eq_true q48
     have p59 : 0 ≤ (0 : Int) := (by omega)
     have q59 : 0 < a0.size := (by have : (0 : Int) < (a0.size : Int) := of_decide_eq_true (by first | (with_reducible assumption) | assumption); omega)
     have hx59 := bt_lit a0 0 0 rfl
     clear p59
     have qi59 : (0 < (a0.size : Int)) = True := eq_true (of_decide_eq_true (by first | (with_reducible assumption) | assumption))
     replace q59 := eq_true q59
     go_enter Tryd.func36, Tryd.ntmps36
     go_wp2_with (first | ((with_reducible refine gate_callee (f := 37) rfl ?_); refine goesL_ (some 116) rfl rfl Tryd.func37 (by kernel_rfl) rfl #[.string (⟨#[117, 110, 101, 120, 112, 101, 99, 116, 101, 100, 32, 118, 97, 108, 117, 101, 32, 102, 111, 117, 110, 100]⟩ : ByteArray)] rfl (by (try simp only [List.map_toArray, List.map_cons, List.map_nil]); first | done | rfl | (simp only [List.length_drop, List.length_take]; rfl)) ?_; (with_reducible refine (errors_New.calls (⟨#[117, 110, 101, 120, 112, 101, 99, 116, 101, 100, 32, 118, 97, 108, 117, 101, 32, 102, 111, 117, 110, 100]⟩ : ByteArray) t363 _ A68.out).mono ?_); rintro e w69 ⟨evt363, rfl, hb⟩; refine ⟨_, rfl, ?_⟩; have n0_ := Aside0.mk (below_step (by repeat (first | (with_reducible first | exact HB.out | apply below_alloc | apply pw_below_drewN | apply below_drew1) | exact HB.out)) hb); clear HB; have HB := n0_; clear n0_; (try clear hb); (try clear hb2); (try clear hk); (try clear hi); (try simp only [errX_none, errX_some])))
     go_ret2
     first | exact ⟨evt363, by first | rfl | (simp [errX_none, errX_some] <;> rfl) | (simp [*, errX_none, errX_some] <;> rfl), by repeat (first | (with_reducible first | exact HB.out | apply below_alloc | apply pw_below_drewN | apply below_drew1) | exact HB.out)⟩ | exact ⟨⟨(evt363).1, (evt363).2, by first | rfl | (simp [errX_none, errX_some] <;> rfl) | (simp [*, errX_none, errX_some] <;> rfl)⟩, by repeat (first | (with_reducible first | exact HB.out | apply below_alloc | apply pw_below_drewN | apply below_drew1) | exact HB.out)⟩
    rw [if_neg c65] at H
    exact absurd H (by simp)
   rw [if_neg c64] at H
   exact absurd H (by simp)
  rw [if_neg c60] at H
  have c60b0 : ((bt a0 0) == 110) = false := beq_eq_false_iff_ne.mpr c60
  have c60b1 : ((bt a0 0) != 110) = true := bne_iff_ne.mpr c60
  replace H := Option.bind_eq_some_iff.mp H
  obtain ⟨⟨t364, t365⟩, A700, H⟩ := H
  replace H : (if t365.isNone = true then (some (t364, none)) else ((errors_New.f (⟨#[99, 97, 110, 110, 111, 116, 32, 112, 97, 114, 115, 101, 32, 110, 117, 109, 98, 101, 114]⟩ : ByteArray)).bind fun t367 => (some (t364, t367)))) = some (r1, r2) := H
  have A70 := Aside0.mk A700
  clear A700
  rcases t365 with _ | q366
  ·
   have H1 : (some (t364, none)) = some (r1, r2) := by rw [if_pos (show (none : Option Int).isNone = true by rfl)] at H; exact H
   clear H
   have H := H1
   clear H1
   try simp only [errX_none, errX_some]
   simp only [Option.some.injEq, Prod.mk.injEq] at H
   obtain ⟨rfl, rfl⟩ := H
   have p6 : 0 ≤ (0 : Int) := (by omega)
   have q6 : 0 < a0.size := (by have : (0 : Int) < (a0.size : Int) := of_decide_eq_true (by first | (with_reducible assumption) | assumption); omega)
   have hx6 := bt_lit a0 0 0 rfl
   clear p6
   have qi6 : (0 < (a0.size : Int)) = True := eq_true (of_decide_eq_true (by first | (with_reducible assumption) | assumption))
   replace q6 := eq_true q6
   have p14 : 0 ≤ (0 : Int) := (by omega)
   have q14 : 0 < a0.size := (by have : (0 : Int) < (a0.size : Int) := of_decide_eq_true (by first | (with_reducible assumption) | assumption); omega)
   have hx14 := bt_lit a0 0 0 rfl
   clear p14
   have qi14 : (0 < (a0.size : Int)) = True := eq_true (of_decide_eq_true (by first | (with_reducible assumption) | assumption))
   replace q14 := eq_true q14
   have p22 : 0 ≤ (0 : Int) := (by omega)
   have q22 : 0 < a0.size := (by have : (0 : Int) < (a0.size : Int) := of_decide_eq_true (by first | (with_reducible assumption) | assumption); omega)
   have hx22 := bt_lit a0 0 0 rfl
   clear p22
   have qi22 : (0 < (a0.size : Int)) = True := eq_true (of_decide_eq_true (by first | (with_reducible assumption) | assumption))
   replace q22 := eq_true q22
   have p37 : 0 ≤ (0 : Int) := (by omega)
   have q37 : 0 < a0.size := (by have : (0 : Int) < (a0.size : Int) := of_decide_eq_true (by first | (with_reducible assumption) | assumption); omega)
   have hx37 := bt_lit a0 0 0 rfl
   clear p37
   have qi37 : (0 < (a0.size : Int)) = True := eq_true (of_decide_eq_true (by first | (with_reducible assumption) | assumption))
   replace q37 := eq_true q37
   have p48 : 0 ≤ (0 : Int) := (by omega)
   have q48 : 0 < a0.size := (by have : (0 : Int) < (a0.size : Int) := of_decide_eq_true (by first | (with_reducible assumption) | assumption); omega)
   have hx48 := bt_lit a0 0 0 rfl
   clear p48
   have qi48 : (0 < (a0.size : Int)) = True := eq_true (of_decide_eq_true (by first | (with_reducible assumption) | assumption))
   replace q48 := eq_true q48
   have p59 : 0 ≤ (0 : Int) := (by omega)
   have q59 : 0 < a0.size := (by have : (0 : Int) < (a0.size : Int) := of_decide_eq_true (by first | (with_reducible assumption) | assumption); omega)
   have hx59 := bt_lit a0 0 0 rfl
   clear p59
   have qi59 : (0 < (a0.size : Int)) = True := eq_true (of_decide_eq_true (by first | (with_reducible assumption) | assumption))
   replace q59 := eq_true q59
   go_enter Tryd.func36, Tryd.ntmps36
   go_wp2_with (first | ((with_reducible refine gate_callee (f := 57) rfl ?_); refine goesL_ (some 121) rfl rfl Tryd.func57 (by kernel_rfl) rfl #[.string a0] rfl (by (try simp only [List.map_toArray, List.map_cons, List.map_nil]); first | done | rfl | (simp only [List.length_drop, List.length_take]; rfl)) ?_; (with_reducible refine (fastjson_validateNumber.calls k a0 t364 none _ A70.out).mono ?_); rintro e w71 ⟨evz_, rfl, hb⟩; refine ⟨_, rfl, ?_⟩; have n0_ := Aside0.mk (below_step (by repeat (first | (with_reducible first | exact HB.out | apply below_alloc | apply pw_below_drewN | apply below_drew1) | exact HB.out)) hb); clear HB; have HB := n0_; clear n0_; (try clear hb); (try clear hb2); (try clear hk); (try clear hi); (try simp only [errX_none, errX_some])))
   go_ret2
   first | exact ⟨(0, Value.nilIface), by first | rfl | (simp [errX_none, errX_some] <;> rfl) | (simp [*, errX_none, errX_some] <;> rfl), by repeat (first | (with_reducible first | exact HB.out | apply below_alloc | apply pw_below_drewN | apply below_drew1) | exact HB.out)⟩ | exact ⟨⟨((0, Value.nilIface)).1, ((0, Value.nilIface)).2, by first | rfl | (simp [errX_none, errX_some] <;> rfl) | (simp [*, errX_none, errX_some] <;> rfl)⟩, by repeat (first | (with_reducible first | exact HB.out | apply below_alloc | apply pw_below_drewN | apply below_drew1) | exact HB.out)⟩
  have H1 : ((errors_New.f (⟨#[99, 97, 110, 110, 111, 116, 32, 112, 97, 114, 115, 101, 32, 110, 117, 109, 98, 101, 114]⟩ : ByteArray)).bind fun t367 => (some (t364, t367))) = some (r1, r2) := by rw [if_neg (show ¬ (some q366).isNone = true by simp)] at H; exact H
  clear H
  have H := H1
  clear H1
  try simp only [errX_none, errX_some]
  replace H := Option.bind_eq_some_iff.mp H
  obtain ⟨t367, A720, H⟩ := H
  replace H : (some (t364, t367)) = some (r1, r2) := H
  have A72 := Aside0.mk A720
  clear A720
  simp only [Option.some.injEq, Prod.mk.injEq] at H
  obtain ⟨rfl, rfl⟩ := H
  have p6 : 0 ≤ (0 : Int) := (by omega)
  have q6 : 0 < a0.size := (by have : (0 : Int) < (a0.size : Int) := of_decide_eq_true (by first | (with_reducible assumption) | assumption); omega)
  have hx6 := bt_lit a0 0 0 rfl
  clear p6
  have qi6 : (0 < (a0.size : Int)) = True := eq_true (of_decide_eq_true (by first | (with_reducible assumption) | assumption))
  replace q6 := eq_true q6
  have p14 : 0 ≤ (0 : Int) := (by omega)
  have q14 : 0 < a0.size := (by have : (0 : Int) < (a0.size : Int) := of_decide_eq_true (by first | (with_reducible assumption) | assumption); omega)
  have hx14 := bt_lit a0 0 0 rfl
  clear p14
  have qi14 : (0 < (a0.size : Int)) = True := eq_true (of_decide_eq_true (by first | (with_reducible assumption) | assumption))
  replace q14 := eq_true q14
  have p22 : 0 ≤ (0 : Int) := (by omega)
  have q22 : 0 < a0.size := (by have : (0 : Int) < (a0.size : Int) := of_decide_eq_true (by first | (with_reducible assumption) | assumption); omega)
  have hx22 := bt_lit a0 0 0 rfl
  clear p22
  have qi22 : (0 < (a0.size : Int)) = True := eq_true (of_decide_eq_true (by first | (with_reducible assumption) | assumption))
  replace q22 := eq_true q22
  have p37 : 0 ≤ (0 : Int) := (by omega)
  have q37 : 0 < a0.size := (by have : (0 : Int) < (a0.size : Int) := of_decide_eq_true (by first | (with_reducible assumption) | assumption); omega)
  have hx37 := bt_lit a0 0 0 rfl
  clear p37
  have qi37 : (0 < (a0.size : Int)) = True := eq_true (of_decide_eq_true (by first | (with_reducible assumption) | assumption))
  replace q37 := eq_true q37
  have p48 : 0 ≤ (0 : Int) := (by omega)
  have q48 : 0 < a0.size := (by have : (0 : Int) < (a0.size : Int) := of_decide_eq_true (by first | (with_reducible assumption) | assumption); omega)
  have hx48 := bt_lit a0 0 0 rfl
  clear p48
  have qi48 : (0 < (a0.size : Int)) = True := eq_true (of_decide_eq_true (by first | (with_reducible assumption) | assumption))
  replace q48 := eq_true q48
  have p59 : 0 ≤ (0 : Int) := (by omega)
  have q59 : 0 < a0.size := (by have : (0 : Int) < (a0.size : Int) := of_decide_eq_true (by first | (with_reducible assumption) | assumption); omega)
  have hx59 := bt_lit a0 0 0 rfl
  clear p59
  have qi59 : (0 < (a0.size : Int)) = True := eq_true (of_decide_eq_true (by first | (with_reducible assumption) | assumption))
  replace q59 := eq_true q59
  go_enter Tryd.func36, Tryd.ntmps36
  go_wp2_with (first | ((with_reducible refine gate_callee (f := 57) rfl ?_); refine goesL_ (some 121) rfl rfl Tryd.func57 (by kernel_rfl) rfl #[.string a0] rfl (by (try simp only [List.map_toArray, List.map_cons, List.map_nil]); first | done | rfl | (simp only [List.length_drop, List.length_take]; rfl)) ?_; (with_reducible refine (fastjson_validateNumber.calls k a0 t364 (some q366) _ A70.out).mono ?_); rintro e w73 ⟨evt365, rfl, hb⟩; refine ⟨_, rfl, ?_⟩; have n0_ := Aside0.mk (below_step (by repeat (first | (with_reducible first | exact HB.out | apply below_alloc | apply pw_below_drewN | apply below_drew1) | exact HB.out)) hb); clear HB; have HB := n0_; clear n0_; (try clear hb); (try clear hb2); (try clear hk); (try clear hi); (try simp only [errX_none, errX_some])) | ((with_reducible refine gate_callee (f := 37) rfl ?_); refine goesL_ (some 127) rfl rfl Tryd.func37 (by kernel_rfl) rfl #[.string (⟨#[99, 97, 110, 110, 111, 116, 32, 112, 97, 114, 115, 101, 32, 110, 117, 109, 98, 101, 114]⟩ : ByteArray)] rfl (by (try simp only [List.map_toArray, List.map_cons, List.map_nil]); first | done | rfl | (simp only [List.length_drop, List.length_take]; rfl)) ?_; (with_reducible refine (errors_New.calls (⟨#[99, 97, 110, 110, 111, 116, 32, 112, 97, 114, 115, 101, 32, 110, 117, 109, 98, 101, 114]⟩ : ByteArray) t367 _ A72.out).mono ?_); rintro e w74 ⟨evt367, rfl, hb⟩; refine ⟨_, rfl, ?_⟩; have n0_ := Aside0.mk (below_step (by repeat (first | (with_reducible first | exact HB.out | apply below_alloc | apply pw_below_drewN | apply below_drew1) | exact HB.out)) hb); clear HB; have HB := n0_; clear n0_; (try clear hb); (try clear hb2); (try clear hk); (try clear hi); (try simp only [errX_none, errX_some])))
  go_ret2
  first | exact ⟨evt367, by first | rfl | (simp [errX_none, errX_some] <;> rfl) | (simp [*, errX_none, errX_some] <;> rfl), by repeat (first | (with_reducible first | exact HB.out | apply below_alloc | apply pw_below_drewN | apply below_drew1) | exact HB.out)⟩ | exact ⟨⟨(evt367).1, (evt367).2, by first | rfl | (simp [errX_none, errX_some] <;> rfl) | (simp [*, errX_none, errX_some] <;> rfl)⟩, by repeat (first | (with_reducible first | exact HB.out | apply below_alloc | apply pw_below_drewN | apply below_drew1) | exact HB.out)⟩
 rw [if_neg c5] at H
 exact absurd H (by simp)
end Go.Proofs.YtdhiihegfdmokaaDoor.PFnFjCheckObject