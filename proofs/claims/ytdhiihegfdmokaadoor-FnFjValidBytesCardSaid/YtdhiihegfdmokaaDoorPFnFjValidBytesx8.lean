-- Written by a program of this session (wip/prx) out of the print of the loaded functions.
import Derived.Test.YtdhiihegfdmokaaDoorPFnFjValidBytesx0
import Derived.Test.YtdhiihegfdmokaaDoorPFnFjValidBytesx3
import Derived.Test.YtdhiihegfdmokaaDoorPFnFjValidBytesx5
import Derived.Test.YtdhiihegfdmokaaDoorPFnFjValidBytesx6
import Derived.Test.YtdhiihegfdmokaaDoorHEFnFjValidBytes
namespace Go.Proofs.YtdhiihegfdmokaaDoor.PFnFjValidBytes
open Go.RowKit Go.Proofs.YtdhiihegfdmokaaDoorW.PrintWords Go.Proofs.YtdhiihegfdmokaaDoorW.PrintLast Go.Proofs.YtdhiihegfdmokaaDoorW.PrintMore
attribute [local go_sem] max2_int min2_int max_two min_two max_three min_three max_four min_four   -- for this text's walks alone
set_option linter.unusedVariables false
set_option linter.unusedSimpArgs false

/-! ### fastjson_validateValue: function 36 -/
set_option maxHeartbeats 8000000 in
set_option maxRecDepth 100000 in
theorem fastjson_validateValue.calls_ (k : Nat) (ih_fastjson_validateObject : ∀ m_, m_ < k → fastjson_validateObject.CallsP m_) (ih_fastjson_validateValue : ∀ m_, m_ < k → fastjson_validateValue.CallsP m_) (ih_fastjson_validateArray : ∀ m_, m_ < k → fastjson_validateArray.CallsP m_) : fastjson_validateValue.CallsP k := by
 intro a0 r1 r2 w h hG
 cases k with
  | zero => exact absurd h (by simp [fastjson_validateValue.f])
  | succ k =>
 simp only [fastjson_validateValue.f] at h
 have hu43 := Tryd.underlying43
 have HB := Aside0.mk (Below.refl w.heap.size w)
 have HG := Aside0.mk hG
 clear hG
 have H : (if (a0.size : Int) = 0 then ((errors_New.f (⟨#[99, 97, 110, 110, 111, 116, 32, 112, 97, 114, 115, 101, 32, 101, 109, 112, 116, 121, 32, 115, 116, 114, 105, 110, 103]⟩ : ByteArray)).bind fun t153 => (some (a0, t153))) else (if 0 < (a0.size : Int) then (if (bt a0 0) = 123 then (if 1 ≤ (a0.size : Int) then ((fastjson_validateObject.f k (a0.extract 1 a0.size)).bind fun bt154 => (if bt154.2.isNone = true then (some (bt154.1, none)) else ((errors_New.f (⟨#[99, 97, 110, 110, 111, 116, 32, 112, 97, 114, 115, 101, 32, 111, 98, 106, 101, 99, 116]⟩ : ByteArray)).bind fun t157 => (some (bt154.1, t157))))) else (none)) else (if (bt a0 0) = 91 then (if 1 ≤ (a0.size : Int) then ((fastjson_validateArray.f k (a0.extract 1 a0.size)).bind fun bt158 => (if bt158.2.isNone = true then (some (bt158.1, none)) else ((errors_New.f (⟨#[99, 97, 110, 110, 111, 116, 32, 112, 97, 114, 115, 101, 32, 97, 114, 114, 97, 121]⟩ : ByteArray)).bind fun t161 => (some (bt158.1, t161))))) else (none)) else (if (bt a0 0) = 34 then (if 1 ≤ (a0.size : Int) then ((fastjson_validateString.f k (a0.extract 1 a0.size)).bind fun bt162 => (if bt162.2.2.isNone = true then (fastjson_validateValue.l0 k bt162.1 bt162.2.1 (bt162.1.size : Int) 0) else ((errors_New.f (⟨#[99, 97, 110, 110, 111, 116, 32, 112, 97, 114, 115, 101, 32, 115, 116, 114, 105, 110, 103]⟩ : ByteArray)).bind fun t167 => (some (bt162.2.1, t167))))) else (none)) else (if (bt a0 0) = 116 then (if (a0.size : Int) < 4 then ((errors_New.f (⟨#[117, 110, 101, 120, 112, 101, 99, 116, 101, 100, 32, 118, 97, 108, 117, 101, 32, 102, 111, 117, 110, 100]⟩ : ByteArray)).bind fun t168 => (some (a0, t168))) else (if 0 ≤ 4 then (if 4 ≤ (a0.size : Int) then (if (a0.extract 0 4).toList = ([116, 114, 117, 101] : List UInt8) then (some (a0.extract 4 a0.size, none)) else ((errors_New.f (⟨#[117, 110, 101, 120, 112, 101, 99, 116, 101, 100, 32, 118, 97, 108, 117, 101, 32, 102, 111, 117, 110, 100]⟩ : ByteArray)).bind fun t169 => (some (a0, t169)))) else (none)) else (none))) else (if (bt a0 0) = 102 then (if (a0.size : Int) < 5 then ((errors_New.f (⟨#[117, 110, 101, 120, 112, 101, 99, 116, 101, 100, 32, 118, 97, 108, 117, 101, 32, 102, 111, 117, 110, 100]⟩ : ByteArray)).bind fun t170 => (some (a0, t170))) else (if 0 ≤ 5 then (if 5 ≤ (a0.size : Int) then (if (a0.extract 0 5).toList = ([102, 97, 108, 115, 101] : List UInt8) then (some (a0.extract 5 a0.size, none)) else ((errors_New.f (⟨#[117, 110, 101, 120, 112, 101, 99, 116, 101, 100, 32, 118, 97, 108, 117, 101, 32, 102, 111, 117, 110, 100]⟩ : ByteArray)).bind fun t171 => (some (a0, t171)))) else (none)) else (none))) else (if (bt a0 0) = 110 then (if (a0.size : Int) < 4 then ((errors_New.f (⟨#[117, 110, 101, 120, 112, 101, 99, 116, 101, 100, 32, 118, 97, 108, 117, 101, 32, 102, 111, 117, 110, 100]⟩ : ByteArray)).bind fun t172 => (some (a0, t172))) else (if 0 ≤ 4 then (if 4 ≤ (a0.size : Int) then (if (a0.extract 0 4).toList = ([110, 117, 108, 108] : List UInt8) then (some (a0.extract 4 a0.size, none)) else ((errors_New.f (⟨#[117, 110, 101, 120, 112, 101, 99, 116, 101, 100, 32, 118, 97, 108, 117, 101, 32, 102, 111, 117, 110, 100]⟩ : ByteArray)).bind fun t173 => (some (a0, t173)))) else (none)) else (none))) else ((fastjson_validateNumber.f k a0).bind fun bt174 => (if bt174.2.isNone = true then (some (bt174.1, none)) else ((errors_New.f (⟨#[99, 97, 110, 110, 111, 116, 32, 112, 97, 114, 115, 101, 32, 110, 117, 109, 98, 101, 114]⟩ : ByteArray)).bind fun t177 => (some (bt174.1, t177))))))))))) else (none))) = some (r1, r2) := h
 clear h
 by_cases c2 : (a0.size : Int) = 0
 ·
  rw [if_pos c2] at H
  have c2b0 : ((a0.size : Int) == 0) = true := beq_iff_eq.mpr c2
  have c2b1 : ((a0.size : Int) != 0) = false := bne_eq_false_iff_eq.mpr c2
  clear c2
  replace H := Option.bind_eq_some_iff.mp H
  obtain ⟨t153, A30, H⟩ := H
  replace H : (some (a0, t153)) = some (r1, r2) := H
  have A3 := Aside0.mk A30
  clear A30
  simp only [Option.some.injEq, Prod.mk.injEq] at H
  obtain ⟨rfl, rfl⟩ := H
  go_enter Tryd.func36, Tryd.ntmps36
  go_wp2_with (first | ((with_reducible refine gate_callee (f := 37) rfl ?_); refine goesL_ (some 18) rfl rfl Tryd.func37 (by kernel_rfl) rfl #[.string (⟨#[99, 97, 110, 110, 111, 116, 32, 112, 97, 114, 115, 101, 32, 101, 109, 112, 116, 121, 32, 115, 116, 114, 105, 110, 103]⟩ : ByteArray)] rfl (by (try simp only [List.map_toArray, List.map_cons, List.map_nil]); first | done | rfl | (simp only [List.length_drop, List.length_take]; rfl)) ?_; (with_reducible refine (errors_New.calls (⟨#[99, 97, 110, 110, 111, 116, 32, 112, 97, 114, 115, 101, 32, 101, 109, 112, 116, 121, 32, 115, 116, 114, 105, 110, 103]⟩ : ByteArray) t153 _ A3.out).mono ?_); rintro e w4 ⟨evt153, rfl, hb⟩; refine ⟨_, rfl, ?_⟩; have n0_ := Aside0.mk (below_step (by repeat (first | (with_reducible first | exact HB.out | apply below_alloc | apply pw_below_drewN | apply below_drew1) | exact HB.out)) hb); clear HB; have HB := n0_; clear n0_; (try clear hb); (try clear hb2); (try clear hk); (try clear hi); (try simp only [errX_none, errX_some])))
  go_ret2
  first | exact ⟨evt153, by first | rfl | (simp [errX_none, errX_some] <;> rfl) | (simp [*, errX_none, errX_some] <;> rfl), by repeat (first | (with_reducible first | exact HB.out | apply below_alloc | apply pw_below_drewN | apply below_drew1) | exact HB.out)⟩ | exact ⟨⟨(evt153).1, (evt153).2, by first | rfl | (simp [errX_none, errX_some] <;> rfl) | (simp [*, errX_none, errX_some] <;> rfl)⟩, by repeat (first | (with_reducible first | exact HB.out | apply below_alloc | apply pw_below_drewN | apply below_drew1) | exact HB.out)⟩
 ·
  rw [if_neg c2] at H
  have c2b0 : ((a0.size : Int) == 0) = false := beq_eq_false_iff_ne.mpr c2
  have c2b1 : ((a0.size : Int) != 0) = true := bne_iff_ne.mpr c2
  by_cases c5 : 0 < (a0.size : Int)
  ·
   rw [if_pos c5] at H
   have c5b0 : decide (0 < (a0.size : Int)) = true := decide_eq_true c5
   have c5b1 : decide (0 < a0.size) = true := decide_eq_true (by omega)
   clear c5
   by_cases c7 : (bt a0 0) = 123
   ·
    rw [if_pos c7] at H
    have c7b0 : ((bt a0 0) == 123) = true := beq_iff_eq.mpr c7
    have c7b1 : ((bt a0 0) != 123) = false := bne_eq_false_iff_eq.mpr c7
    clear c7
    by_cases c8 : 1 ≤ (a0.size : Int)
    ·
     rw [if_pos c8] at H
     have c8b0 := eq_true c8
     have c8b1 : decide (1 ≤ (a0.size : Int)) = true := decide_eq_true c8
     clear c8
     obtain ⟨js9, hjs9⟩ : ∃ j_ : ByteArray, (a0.extract 1 a0.size) = j_ := ⟨_, rfl⟩
     skip
     replace H : ((fastjson_validateObject.f k js9).bind fun bt154 => (if bt154.2.isNone = true then (some (bt154.1, none)) else ((errors_New.f (⟨#[99, 97, 110, 110, 111, 116, 32, 112, 97, 114, 115, 101, 32, 111, 98, 106, 101, 99, 116]⟩ : ByteArray)).bind fun t157 => (some (bt154.1, t157))))) = some (r1, r2) := by first | (rw [hjs9] at H; exact H) | (simp only [hjs9] at H ⊢; exact H)
     replace H := Option.bind_eq_some_iff.mp H
     obtain ⟨⟨t154, t155⟩, A100, H⟩ := H
     replace H : (if t155.isNone = true then (some (t154, none)) else ((errors_New.f (⟨#[99, 97, 110, 110, 111, 116, 32, 112, 97, 114, 115, 101, 32, 111, 98, 106, 101, 99, 116]⟩ : ByteArray)).bind fun t157 => (some (t154, t157)))) = some (r1, r2) := H
     have A10 := Aside0.mk A100
     clear A100
     rcases t155 with _ | q156
     ·
      have H1 : (some (t154, none)) = some (r1, r2) := by rw [if_pos (show (none : Option Int).isNone = true by rfl)] at H; exact H
      clear H
      have H := H1
      clear H1
      try simp only [errX_none, errX_some]
      simp only [Option.some.injEq, Prod.mk.injEq] at H
      obtain ⟨rfl, rfl⟩ := H
      have p6 : 0 ≤ (0 : Int) := (by omega)
      have q6 : 0 < a0.size := (by have : (0 : Int) < (a0.size : Int) := of_decide_eq_true (by first | (with_reducible assumption) | assumption); omega)
      have hx6 := bt_lit a0 0 0 rfl
      clear p6
      have qi6 : (0 < (a0.size : Int)) = True := eq_true (of_decide_eq_true (by first | (with_reducible assumption) | assumption))
      replace q6 := eq_true q6
      go_enter Tryd.func36, Tryd.ntmps36
      go_wp2_with (first | ((with_reducible refine gate_callee (f := 34) rfl ?_); refine goesL_ (some 25) rfl rfl Tryd.func34 (by kernel_rfl) rfl #[.string js9] rfl (by (try simp only [List.map_toArray, List.map_cons, List.map_nil]); first | done | rfl | (simp only [List.length_drop, List.length_take]; rfl)) ?_; (with_reducible refine (ih_fastjson_validateObject k (by omega) js9 t154 none _ A10.out (HG.out.below (by repeat (first | (with_reducible first | exact HB.out | apply below_alloc | apply pw_below_drewN | apply below_drew1) | exact HB.out)))).mono ?_); rintro e w11 ⟨evz_, rfl, hb⟩; refine ⟨_, rfl, ?_⟩; have n0_ := Aside0.mk (below_step (by repeat (first | (with_reducible first | exact HB.out | apply below_alloc | apply pw_below_drewN | apply below_drew1) | exact HB.out)) hb); clear HB; have HB := n0_; clear n0_; (try clear hb); (try clear hb2); (try clear hk); (try clear hi); (try simp only [errX_none, errX_some])))
      go_ret2
      first | exact ⟨(0, Value.nilIface), by first | rfl | (simp [errX_none, errX_some] <;> rfl) | (simp only [← hjs9]; first | rfl | (simp [errX_none, errX_some] <;> rfl)) | (simp [*, errX_none, errX_some] <;> rfl), by repeat (first | (with_reducible first | exact HB.out | apply below_alloc | apply pw_below_drewN | apply below_drew1) | exact HB.out)⟩ | exact ⟨⟨((0, Value.nilIface)).1, ((0, Value.nilIface)).2, by first | rfl | (simp [errX_none, errX_some] <;> rfl) | (simp only [← hjs9]; first | rfl | (simp [errX_none, errX_some] <;> rfl)) | (simp [*, errX_none, errX_some] <;> rfl)⟩, by repeat (first | (with_reducible first | exact HB.out | apply below_alloc | apply pw_below_drewN | apply below_drew1) | exact HB.out)⟩
     ·
      have H1 : ((errors_New.f (⟨#[99, 97, 110, 110, 111, 116, 32, 112, 97, 114, 115, 101, 32, 111, 98, 106, 101, 99, 116]⟩ : ByteArray)).bind fun t157 => (some (t154, t157))) = some (r1, r2) := by rw [if_neg (show ¬ (some q156).isNone = true by simp)] at H; exact H
      clear H
      have H := H1
      clear H1
      try simp only [errX_none, errX_some]
      replace H := Option.bind_eq_some_iff.mp H
      obtain ⟨t157, A120, H⟩ := H
      replace H : (some (t154, t157)) = some (r1, r2) := H
      have A12 := Aside0.mk A120
      clear A120
      simp only [Option.some.injEq, Prod.mk.injEq] at H
      obtain ⟨rfl, rfl⟩ := H
      have p6 : 0 ≤ (0 : Int) := (by omega)
      have q6 : 0 < a0.size := (by have : (0 : Int) < (a0.size : Int) := of_decide_eq_true (by first | (with_reducible assumption) | assumption); omega)
      have hx6 := bt_lit a0 0 0 rfl
      clear p6
      have qi6 : (0 < (a0.size : Int)) = True := eq_true (of_decide_eq_true (by first | (with_reducible assumption) | assumption))
      replace q6 := eq_true q6
      go_enter Tryd.func36, Tryd.ntmps36
      go_wp2_with (first | ((with_reducible refine gate_callee (f := 34) rfl ?_); refine goesL_ (some 25) rfl rfl Tryd.func34 (by kernel_rfl) rfl #[.string js9] rfl (by (try simp only [List.map_toArray, List.map_cons, List.map_nil]); first | done | rfl | (simp only [List.length_drop, List.length_take]; rfl)) ?_; (with_reducible refine (ih_fastjson_validateObject k (by omega) js9 t154 (some q156) _ A10.out (HG.out.below (by repeat (first | (with_reducible first | exact HB.out | apply below_alloc | apply pw_below_drewN | apply below_drew1) | exact HB.out)))).mono ?_); rintro e w13 ⟨evt155, rfl, hb⟩; refine ⟨_, rfl, ?_⟩; have n0_ := Aside0.mk (below_step (by repeat (first | (with_reducible first | exact HB.out | apply below_alloc | apply pw_below_drewN | apply below_drew1) | exact HB.out)) hb); clear HB; have HB := n0_; clear n0_; (try clear hb); (try clear hb2); (try clear hk); (try clear hi); (try simp only [errX_none, errX_some])) | ((with_reducible refine gate_callee (f := 37) rfl ?_); refine goesL_ (some 31) rfl rfl Tryd.func37 (by kernel_rfl) rfl #[.string (⟨#[99, 97, 110, 110, 111, 116, 32, 112, 97, 114, 115, 101, 32, 111, 98, 106, 101, 99, 116]⟩ : ByteArray)] rfl (by (try simp only [List.map_toArray, List.map_cons, List.map_nil]); first | done | rfl | (simp only [List.length_drop, List.length_take]; rfl)) ?_; (with_reducible refine (errors_New.calls (⟨#[99, 97, 110, 110, 111, 116, 32, 112, 97, 114, 115, 101, 32, 111, 98, 106, 101, 99, 116]⟩ : ByteArray) t157 _ A12.out).mono ?_); rintro e w14 ⟨evt157, rfl, hb⟩; refine ⟨_, rfl, ?_⟩; have n0_ := Aside0.mk (below_step (by repeat (first | (with_reducible first | exact HB.out | apply below_alloc | apply pw_below_drewN | apply below_drew1) | exact HB.out)) hb); clear HB; have HB := n0_; clear n0_; (try clear hb); (try clear hb2); (try clear hk); (try clear hi); (try simp only [errX_none, errX_some])))
      go_ret2
      first | exact ⟨evt157, by first | rfl | (simp [errX_none, errX_some] <;> rfl) | (simp only [← hjs9]; first | rfl | (simp [errX_none, errX_some] <;> rfl)) | (simp [*, errX_none, errX_some] <;> rfl), by repeat (first | (with_reducible first | exact HB.out | apply below_alloc | apply pw_below_drewN | apply below_drew1) | exact HB.out)⟩ | exact ⟨⟨(evt157).1, (evt157).2, by first | rfl | (simp [errX_none, errX_some] <;> rfl) | (simp only [← hjs9]; first | rfl | (simp [errX_none, errX_some] <;> rfl)) | (simp [*, errX_none, errX_some] <;> rfl)⟩, by repeat (first | (with_reducible first | exact HB.out | apply below_alloc | apply pw_below_drewN | apply below_drew1) | exact HB.out)⟩
    ·
     rw [if_neg c8] at H
     exact absurd H (by simp)
   ·
    rw [if_neg c7] at H
    have c7b0 : ((bt a0 0) == 123) = false := beq_eq_false_iff_ne.mpr c7
    have c7b1 : ((bt a0 0) != 123) = true := bne_iff_ne.mpr c7
    by_cases c16 : (bt a0 0) = 91
    ·
     rw [if_pos c16] at H
     have c16b0 : ((bt a0 0) == 91) = true := beq_iff_eq.mpr c16
     have c16b1 : ((bt a0 0) != 91) = false := bne_eq_false_iff_eq.mpr c16
     clear c16
     by_cases c17 : 1 ≤ (a0.size : Int)
     ·
      rw [if_pos c17] at H
      have c17b0 := eq_true c17
      have c17b1 : decide (1 ≤ (a0.size : Int)) = true := decide_eq_true c17
      clear c17
      obtain ⟨js18, hjs18⟩ : ∃ j_ : ByteArray, (a0.extract 1 a0.size) = j_ := ⟨_, rfl⟩
      skip
      replace H : ((fastjson_validateArray.f k js18).bind fun bt158 => (if bt158.2.isNone = true then (some (bt158.1, none)) else ((errors_New.f (⟨#[99, 97, 110, 110, 111, 116, 32, 112, 97, 114, 115, 101, 32, 97, 114, 114, 97, 121]⟩ : ByteArray)).bind fun t161 => (some (bt158.1, t161))))) = some (r1, r2) := by first | (rw [hjs18] at H; exact H) | (simp only [hjs18] at H ⊢; exact H)
      replace H := Option.bind_eq_some_iff.mp H
      obtain ⟨⟨t158, t159⟩, A190, H⟩ := H
      replace H : (if t159.isNone = true then (some (t158, none)) else ((errors_New.f (⟨#[99, 97, 110, 110, 111, 116, 32, 112, 97, 114, 115, 101, 32, 97, 114, 114, 97, 121]⟩ : ByteArray)).bind fun t161 => (some (t158, t161)))) = some (r1, r2) := H
      have A19 := Aside0.mk A190
      clear A190
      rcases t159 with _ | q160
      ·
       have H1 : (some (t158, none)) = some (r1, r2) := by rw [if_pos (show (none : Option Int).isNone = true by rfl)] at H; exact H
       clear H
       have H := H1
       clear H1
       try simp only [errX_none, errX_some]
       simp only [Option.some.injEq, Prod.mk.injEq] at H
       obtain ⟨rfl, rfl⟩ := H
       have p6 : 0 ≤ (0 : Int) := (by omega)
       have q6 : 0 < a0.size := (by have : (0 : Int) < (a0.size : Int) := of_decide_eq_true (by first | (with_reducible assumption) | assumption); omega)
       have hx6 := bt_lit a0 0 0 rfl
       clear p6
       have qi6 : (0 < (a0.size : Int)) = True := eq_true (of_decide_eq_true (by first | (with_reducible assumption) | assumption))
       replace q6 := eq_true q6
       have p15 : 0 ≤ (0 : Int) := (by omega)
       have q15 : 0 < a0.size := (by have : (0 : Int) < (a0.size : Int) := of_decide_eq_true (by first | (with_reducible assumption) | assumption); omega)
       have hx15 := bt_lit a0 0 0 rfl
       clear p15
       have qi15 : (0 < (a0.size : Int)) = True := eq_true (of_decide_eq_true (by first | (with_reducible assumption) | assumption))
       replace q15 := eq_true q15
       go_enter Tryd.func36, Tryd.ntmps36
       go_wp2_with (first | ((with_reducible refine gate_callee (f := 55) rfl ?_); refine goesL_ (some 39) rfl rfl Tryd.func55 (by kernel_rfl) rfl #[.string js18] rfl (by (try simp only [List.map_toArray, List.map_cons, List.map_nil]); first | done | rfl | (simp only [List.length_drop, List.length_take]; rfl)) ?_; (with_reducible refine (ih_fastjson_validateArray k (by omega) js18 t158 none _ A19.out (HG.out.below (by repeat (first | (with_reducible first | exact HB.out | apply below_alloc | apply pw_below_drewN | apply below_drew1) | exact HB.out)))).mono ?_); rintro e w20 ⟨evz_, rfl, hb⟩; refine ⟨_, rfl, ?_⟩; have n0_ := Aside0.mk (below_step (by repeat (first | (with_reducible first | exact HB.out | apply below_alloc | apply pw_below_drewN | apply below_drew1) | exact HB.out)) hb); clear HB; have HB := n0_; clear n0_; (try clear hb); (try clear hb2); (try clear hk); (try clear hi); (try simp only [errX_none, errX_some])))
       go_ret2
       first | exact ⟨(0, Value.nilIface), by first | rfl | (simp [errX_none, errX_some] <;> rfl) | (simp only [← hjs18]; first | rfl | (simp [errX_none, errX_some] <;> rfl)) | (simp [*, errX_none, errX_some] <;> rfl), by repeat (first | (with_reducible first | exact HB.out | apply below_alloc | apply pw_below_drewN | apply below_drew1) | exact HB.out)⟩ | exact ⟨⟨((0, Value.nilIface)).1, ((0, Value.nilIface)).2, by first | rfl | (simp [errX_none, errX_some] <;> rfl) | (simp only [← hjs18]; first | rfl | (simp [errX_none, errX_some] <;> rfl)) | (simp [*, errX_none, errX_some] <;> rfl)⟩, by repeat (first | (with_reducible first | exact HB.out | apply below_alloc | apply pw_below_drewN | apply below_drew1) | exact HB.out)⟩
      ·
       have H1 : ((errors_New.f (⟨#[99, 97, 110, 110, 111, 116, 32, 112, 97, 114, 115, 101, 32, 97, 114, 114, 97, 121]⟩ : ByteArray)).bind fun t161 => (some (t158, t161))) = some (r1, r2) := by rw [if_neg (show ¬ (some q160).isNone = true by simp)] at H; exact H
       clear H
       have H := H1
       clear H1
       try simp only [errX_none, errX_some]
       replace H := Option.bind_eq_some_iff.mp H
       obtain ⟨t161, A210, H⟩ := H
       replace H : (some (t158, t161)) = some (r1, r2) := H
       have A21 := Aside0.mk A210
       clear A210
       simp only [Option.some.injEq, Prod.mk.injEq] at H
       obtain ⟨rfl, rfl⟩ := H
       have p6 : 0 ≤ (0 : Int) := (by omega)
       have q6 : 0 < a0.size := (by have : (0 : Int) < (a0.size : Int) := of_decide_eq_true (by first | (with_reducible assumption) | assumption); omega)
       have hx6 := bt_lit a0 0 0 rfl
       clear p6
       have qi6 : (0 < (a0.size : Int)) = True := eq_true (of_decide_eq_true (by first | (with_reducible assumption) | assumption))
       replace q6 := eq_true q6
       have p15 : 0 ≤ (0 : Int) := (by omega)
       have q15 : 0 < a0.size := (by have : (0 : Int) < (a0.size : Int) := of_decide_eq_true (by first | (with_reducible assumption) | assumption); omega)
       have hx15 := bt_lit a0 0 0 rfl
       clear p15
       have qi15 : (0 < (a0.size : Int)) = True := eq_true (of_decide_eq_true (by first | (with_reducible assumption) | assumption))
       replace q15 := eq_true q15
       go_enter Tryd.func36, Tryd.ntmps36
       go_wp2_with (first | ((with_reducible refine gate_callee (f := 55) rfl ?_); refine goesL_ (some 39) rfl rfl Tryd.func55 (by kernel_rfl) rfl #[.string js18] rfl (by (try simp only [List.map_toArray, List.map_cons, List.map_nil]); first | done | rfl | (simp only [List.length_drop, List.length_take]; rfl)) ?_; (with_reducible refine (ih_fastjson_validateArray k (by omega) js18 t158 (some q160) _ A19.out (HG.out.below (by repeat (first | (with_reducible first | exact HB.out | apply below_alloc | apply pw_below_drewN | apply below_drew1) | exact HB.out)))).mono ?_); rintro e w22 ⟨evt159, rfl, hb⟩; refine ⟨_, rfl, ?_⟩; have n0_ := Aside0.mk (below_step (by repeat (first | (with_reducible first | exact HB.out | apply below_alloc | apply pw_below_drewN | apply below_drew1) | exact HB.out)) hb); clear HB; have HB := n0_; clear n0_; (try clear hb); (try clear hb2); (try clear hk); (try clear hi); (try simp only [errX_none, errX_some])) | ((with_reducible refine gate_callee (f := 37) rfl ?_); refine goesL_ (some 45) rfl rfl Tryd.func37 (by kernel_rfl) rfl #[.string (⟨#[99, 97, 110, 110, 111, 116, 32, 112, 97, 114, 115, 101, 32, 97, 114, 114, 97, 121]⟩ : ByteArray)] rfl (by (try simp only [List.map_toArray, List.map_cons, List.map_nil]); first | done | rfl | (simp only [List.length_drop, List.length_take]; rfl)) ?_; (with_reducible refine (errors_New.calls (⟨#[99, 97, 110, 110, 111, 116, 32, 112, 97, 114, 115, 101, 32, 97, 114, 114, 97, 121]⟩ : ByteArray) t161 _ A21.out).mono ?_); rintro e w23 ⟨evt161, rfl, hb⟩; refine ⟨_, rfl, ?_⟩; have n0_ := Aside0.mk (below_step (by repeat (first | (with_reducible first | exact HB.out | apply below_alloc | apply pw_below_drewN | apply below_drew1) | exact HB.out)) hb); clear HB; have HB := n0_; clear n0_; (try clear hb); (try clear hb2); (try clear hk); (try clear hi); (try simp only [errX_none, errX_some])))
       go_ret2
       first | exact ⟨evt161, by first | rfl | (simp [errX_none, errX_some] <;> rfl) | (simp only [← hjs18]; first | rfl | (simp [errX_none, errX_some] <;> rfl)) | (simp [*, errX_none, errX_some] <;> rfl), by repeat (first | (with_reducible first | exact HB.out | apply below_alloc | apply pw_below_drewN | apply below_drew1) | exact HB.out)⟩ | exact ⟨⟨(evt161).1, (evt161).2, by first | rfl | (simp [errX_none, errX_some] <;> rfl) | (simp only [← hjs18]; first | rfl | (simp [errX_none, errX_some] <;> rfl)) | (simp [*, errX_none, errX_some] <;> rfl)⟩, by repeat (first | (with_reducible first | exact HB.out | apply below_alloc | apply pw_below_drewN | apply below_drew1) | exact HB.out)⟩
     ·
      rw [if_neg c17] at H
      exact absurd H (by simp)
    ·
     rw [if_neg c16] at H
     have c16b0 : ((bt a0 0) == 91) = false := beq_eq_false_iff_ne.mpr c16
     have c16b1 : ((bt a0 0) != 91) = true := bne_iff_ne.mpr c16
     by_cases c25 : (bt a0 0) = 34
     ·
      rw [if_pos c25] at H
      have c25b0 : ((bt a0 0) == 34) = true := beq_iff_eq.mpr c25
      have c25b1 : ((bt a0 0) != 34) = false := bne_eq_false_iff_eq.mpr c25
      clear c25
      by_cases c26 : 1 ≤ (a0.size : Int)
      ·
       rw [if_pos c26] at H
       have c26b0 := eq_true c26
       have c26b1 : decide (1 ≤ (a0.size : Int)) = true := decide_eq_true c26
       clear c26
       obtain ⟨js27, hjs27⟩ : ∃ j_ : ByteArray, (a0.extract 1 a0.size) = j_ := ⟨_, rfl⟩
       skip
       replace H : ((fastjson_validateString.f k js27).bind fun bt162 => (if bt162.2.2.isNone = true then (fastjson_validateValue.l0 k bt162.1 bt162.2.1 (bt162.1.size : Int) 0) else ((errors_New.f (⟨#[99, 97, 110, 110, 111, 116, 32, 112, 97, 114, 115, 101, 32, 115, 116, 114, 105, 110, 103]⟩ : ByteArray)).bind fun t167 => (some (bt162.2.1, t167))))) = some (r1, r2) := by first | (rw [hjs27] at H; exact H) | (simp only [hjs27] at H ⊢; exact H)
       replace H := Option.bind_eq_some_iff.mp H
       obtain ⟨⟨t162, t163, t164⟩, A280, H⟩ := H
       replace H : (if t164.isNone = true then (fastjson_validateValue.l0 k t162 t163 (t162.size : Int) 0) else ((errors_New.f (⟨#[99, 97, 110, 110, 111, 116, 32, 112, 97, 114, 115, 101, 32, 115, 116, 114, 105, 110, 103]⟩ : ByteArray)).bind fun t167 => (some (t163, t167)))) = some (r1, r2) := H
       have A28 := Aside0.mk A280
       clear A280
       rcases t164 with _ | q165
       ·
        have H1 : (fastjson_validateValue.l0 k t162 t163 (t162.size : Int) 0) = some (r1, r2) := by rw [if_pos (show (none : Option Int).isNone = true by rfl)] at H; exact H
        clear H
        have H := H1
        clear H1
        try simp only [errX_none, errX_some]
        have H' := Aside0.mk H
        clear H
        have p6 : 0 ≤ (0 : Int) := (by omega)
        have q6 : 0 < a0.size := (by have : (0 : Int) < (a0.size : Int) := of_decide_eq_true (by first | (with_reducible assumption) | assumption); omega)
        have hx6 := bt_lit a0 0 0 rfl
        clear p6
        have qi6 : (0 < (a0.size : Int)) = True := eq_true (of_decide_eq_true (by first | (with_reducible assumption) | assumption))
        replace q6 := eq_true q6
        have p15 : 0 ≤ (0 : Int) := (by omega)
        have q15 : 0 < a0.size := (by have : (0 : Int) < (a0.size : Int) := of_decide_eq_true (by first | (with_reducible assumption) | assumption); omega)
        have hx15 := bt_lit a0 0 0 rfl
        clear p15
        have qi15 : (0 < (a0.size : Int)) = True := eq_true (of_decide_eq_true (by first | (with_reducible assumption) | assumption))
        replace q15 := eq_true q15
        have p24 : 0 ≤ (0 : Int) := (by omega)
        have q24 : 0 < a0.size := (by have : (0 : Int) < (a0.size : Int) := of_decide_eq_true (by first | (with_reducible assumption) | assumption); omega)
        have hx24 := bt_lit a0 0 0 rfl
        clear p24
        have qi24 : (0 < (a0.size : Int)) = True := eq_true (of_decide_eq_true (by first | (with_reducible assumption) | assumption))
        replace q24 := eq_true q24
        go_enter Tryd.func36, Tryd.ntmps36
        go_wp2_with (first | ((with_reducible refine gate_callee (f := 56) rfl ?_); refine goesL_ (some 53) rfl rfl Tryd.func56 (by kernel_rfl) rfl #[.string js27] rfl (by (try simp only [List.map_toArray, List.map_cons, List.map_nil]); first | done | rfl | (simp only [List.length_drop, List.length_take]; rfl)) ?_; (with_reducible refine (fastjson_validateString.calls k js27 t162 t163 none _ A28.out (HG.out.below (by repeat (first | (with_reducible first | exact HB.out | apply below_alloc | apply pw_below_drewN | apply below_drew1) | exact HB.out)))).mono ?_); rintro e w29 ⟨evz_, rfl, hb⟩; refine ⟨_, rfl, ?_⟩; have n0_ := Aside0.mk (below_step (by repeat (first | (with_reducible first | exact HB.out | apply below_alloc | apply pw_below_drewN | apply below_drew1) | exact HB.out)) hb); clear HB; have HB := n0_; clear n0_; (try clear hb); (try clear hb2); (try clear hk); (try clear hi); (try simp only [errX_none, errX_some])))
        try simp only [Act.put, List.setIfInBounds_toArray, List.set_cons_succ, List.set_cons_zero]
        go_loopg [63] k (fun kq v63 w' => ∃ (x63_1 : Int), v63 = .int .i64 x63_1 ∧ Aside0 (fastjson_validateValue.l0 kq t162 t163 (t162.size : Int) x63_1 = some (r1, r2)) ∧ Aside0 (kq ≤ k) ∧ Aside0 (Below w.heap.size w w'))
        case atStart => exact ⟨(0), (by first | rfl | (simp; done) | (simp [nil_ne_, nil_eq_]; done) | (simp [*]; done)), H', ⟨Nat.le_refl _⟩, ⟨by repeat (first | (with_reducible first | exact HB.out | apply below_alloc | apply pw_below_drewN | apply below_drew1) | exact HB.out)⟩⟩
        case round =>
         clear H'
         try clear c1
         try clear p1
         try clear q1
         try clear hx1
         try clear qi1
         try clear c2
         try clear c2b0
         try clear c2b1
         try clear p2
         try clear q2
         try clear hx2
         try clear qi2
         try clear c3
         try clear c5
         try clear c5b0
         try clear c5b1
         try clear p6
         try clear q6
         try clear hx6
         try clear qi6
         try clear c7
         try clear c7b0
         try clear c7b1
         try clear c8
         try clear c8b0
         try clear c8b1
         try clear p15
         try clear q15
         try clear hx15
         try clear qi15
         try clear c16
         try clear c16b0
         try clear c16b1
         try clear q16
         try clear c17
         try clear c17b0
         try clear c17b1
         try clear p24
         try clear q24
         try clear hx24
         try clear qi24
         try clear c25
         try clear c25b0
         try clear c25b1
         try clear c26
         try clear c26b0
         try clear c26b1
         try clear p15
         try clear p24
         try clear p6
         try clear q15
         try clear q156
         try clear q160
         try clear q165
         try clear q24
         try clear q6
         obtain ⟨x63_1, rfl, HA, HK1, HB⟩ := hrel
         cases gk with
         | zero => exact absurd HA.out (by simp [fastjson_validateValue.l0])
         | succ k1 =>
          have H := HA.out
          clear HA
          simp only [fastjson_validateValue.l0] at H
          by_cases c30 : x63_1 < (t162.size : Int)
          ·
           rw [if_pos c30] at H
           have c30b0 : decide (x63_1 < (t162.size : Int)) = true := decide_eq_true c30
           clear c30
           by_cases c31 : 0 ≤ x63_1
           ·
            rw [if_pos c31] at H
            have c31b0 : decide (0 ≤ x63_1) = true := decide_eq_true c31
            clear c31
            by_cases c32 : x63_1 < (t162.size : Int)
            ·
             rw [if_pos c32] at H
             have c32b0 : decide (x63_1 < (t162.size : Int)) = true := decide_eq_true c32
             clear c32
             by_cases c34 : (bt t162 x63_1) < 32
             ·
              rw [if_pos c34] at H
              have c34b0 : decide ((bt t162 x63_1) < 32) = true := decide_eq_true c34
              clear c34
              replace H := Option.bind_eq_some_iff.mp H
              obtain ⟨t166, A350, H⟩ := H
              replace H : (some (t163, t166)) = some (r1, r2) := H
              have A35 := Aside0.mk A350
              clear A350
              simp only [Option.some.injEq, Prod.mk.injEq] at H
              obtain ⟨rfl, rfl⟩ := H
              have p33 : 0 ≤ (x63_1 : Int) := of_decide_eq_true (by first | (with_reducible assumption) | assumption)
              have q33 : x63_1 < (t162.size : Int) := of_decide_eq_true (by first | (with_reducible assumption) | assumption)
              have hx33 := bt_at t162 x63_1
              replace p33 := eq_true p33
              replace q33 := eq_true q33
              go_wp2_with (first | ((with_reducible refine gate_callee (f := 37) rfl ?_); refine goesL_ (some 71) rfl rfl Tryd.func37 (by kernel_rfl) rfl #[.string (⟨#[115, 116, 114, 105, 110, 103, 32, 99, 97, 110, 110, 111, 116, 32, 99, 111, 110, 116, 97, 105, 110, 32, 99, 111, 110, 116, 114, 111, 108, 32, 99, 104, 97, 114, 32, 48, 120]⟩ : ByteArray)] rfl (by (try simp only [List.map_toArray, List.map_cons, List.map_nil]); first | done | rfl | (simp only [List.length_drop, List.length_take]; rfl)) ?_; (with_reducible refine (errors_New.calls (⟨#[115, 116, 114, 105, 110, 103, 32, 99, 97, 110, 110, 111, 116, 32, 99, 111, 110, 116, 97, 105, 110, 32, 99, 111, 110, 116, 114, 111, 108, 32, 99, 104, 97, 114, 32, 48, 120]⟩ : ByteArray) t166 _ A35.out).mono ?_); rintro e w36 ⟨evt166, rfl, hb⟩; refine ⟨_, rfl, ?_⟩; have n0_ := Aside0.mk (below_step (by repeat (first | (with_reducible first | exact HB.out | apply below_alloc | apply pw_below_drewN | apply below_drew1) | exact HB.out)) hb); clear HB; have HB := n0_; clear n0_; (try clear hb); (try clear hb2); (try clear hk); (try clear hi); (try simp only [errX_none, errX_some])))
              go_ret2
              first | exact ⟨evt166, by first | rfl | (simp [errX_none, errX_some] <;> rfl) | (simp only [← hjs27]; first | rfl | (simp [errX_none, errX_some] <;> rfl)) | (simp [*, errX_none, errX_some] <;> rfl), by repeat (first | (with_reducible first | exact HB.out | apply below_alloc | apply pw_below_drewN | apply below_drew1) | exact HB.out)⟩ | exact ⟨⟨(evt166).1, (evt166).2, by first | rfl | (simp [errX_none, errX_some] <;> rfl) | (simp only [← hjs27]; first | rfl | (simp [errX_none, errX_some] <;> rfl)) | (simp [*, errX_none, errX_some] <;> rfl)⟩, by repeat (first | (with_reducible first | exact HB.out | apply below_alloc | apply pw_below_drewN | apply below_drew1) | exact HB.out)⟩
             ·
              rw [if_neg c34] at H
              have c34b0 : decide ((bt t162 x63_1) < 32) = false := decide_eq_false c34
              clear c34
              have H' := Aside0.mk H
              clear H
              have p33 : 0 ≤ (x63_1 : Int) := of_decide_eq_true (by first | (with_reducible assumption) | assumption)
              have q33 : x63_1 < (t162.size : Int) := of_decide_eq_true (by first | (with_reducible assumption) | assumption)
              have hx33 := bt_at t162 x63_1
              replace p33 := eq_true p33
              replace q33 := eq_true q33
              go_wp2
              go_roundg k1
              case measure => have := HK1.out; omega
              case rel => exact ⟨(wrap64 (x63_1 + 1)), (by first | rfl | (simp; done) | (simp [nil_ne_, nil_eq_]; done) | (simp [*]; done)), (by first | exact H' | (rw [hjs27]; exact H') | (simp only [hjs27]; exact H') | (simp only [hjs27] at H' ⊢; exact H')), ⟨by have := HK1.out; omega⟩, ⟨by repeat (first | (with_reducible first | exact HB.out | apply below_alloc | apply pw_below_drewN | apply below_drew1) | exact HB.out)⟩⟩
            ·
             rw [if_neg c32] at H
             exact absurd H (by simp)
           ·
            rw [if_neg c31] at H
            exact absurd H (by simp)
          ·
           rw [if_neg c30] at H
           have c30b0 : decide (x63_1 < (t162.size : Int)) = false := decide_eq_false c30
           clear c30
           simp only [Option.some.injEq, Prod.mk.injEq] at H
           obtain ⟨rfl, rfl⟩ := H
           go_wp2
           go_ret2
           first | exact ⟨(0, Value.nilIface), by first | rfl | (simp [errX_none, errX_some] <;> rfl) | (simp only [← hjs27]; first | rfl | (simp [errX_none, errX_some] <;> rfl)) | (simp [*, errX_none, errX_some] <;> rfl), by repeat (first | (with_reducible first | exact HB.out | apply below_alloc | apply pw_below_drewN | apply below_drew1) | exact HB.out)⟩ | exact ⟨⟨((0, Value.nilIface)).1, ((0, Value.nilIface)).2, by first | rfl | (simp [errX_none, errX_some] <;> rfl) | (simp only [← hjs27]; first | rfl | (simp [errX_none, errX_some] <;> rfl)) | (simp [*, errX_none, errX_some] <;> rfl)⟩, by repeat (first | (with_reducible first | exact HB.out | apply below_alloc | apply pw_below_drewN | apply below_drew1) | exact HB.out)⟩
       ·
        have H1 : ((errors_New.f (⟨#[99, 97, 110, 110, 111, 116, 32, 112, 97, 114, 115, 101, 32, 115, 116, 114, 105, 110, 103]⟩ : ByteArray)).bind fun t167 => (some (t163, t167))) = some (r1, r2) := by rw [if_neg (show ¬ (some q165).isNone = true by simp)] at H; exact H
        clear H
        have H := H1
        clear H1
        try simp only [errX_none, errX_some]
        replace H := Option.bind_eq_some_iff.mp H
        obtain ⟨t167, A370, H⟩ := H
        replace H : (some (t163, t167)) = some (r1, r2) := H
        have A37 := Aside0.mk A370
        clear A370
        simp only [Option.some.injEq, Prod.mk.injEq] at H
        obtain ⟨rfl, rfl⟩ := H
        have p6 : 0 ≤ (0 : Int) := (by omega)
        have q6 : 0 < a0.size := (by have : (0 : Int) < (a0.size : Int) := of_decide_eq_true (by first | (with_reducible assumption) | assumption); omega)
        have hx6 := bt_lit a0 0 0 rfl
        clear p6
        have qi6 : (0 < (a0.size : Int)) = True := eq_true (of_decide_eq_true (by first | (with_reducible assumption) | assumption))
        replace q6 := eq_true q6
        have p15 : 0 ≤ (0 : Int) := (by omega)
        have q15 : 0 < a0.size := (by have : (0 : Int) < (a0.size : Int) := of_decide_eq_true (by first | (with_reducible assumption) | assumption); omega)
        have hx15 := bt_lit a0 0 0 rfl
        clear p15
        have qi15 : (0 < (a0.size : Int)) = True := eq_true (of_decide_eq_true (by first | (with_reducible assumption) | assumption))
        replace q15 := eq_true q15
        have p24 : 0 ≤ (0 : Int) := (by omega)
        have q24 : 0 < a0.size := (by have : (0 : Int) < (a0.size : Int) := of_decide_eq_true (by first | (with_reducible assumption) | assumption); omega)
        have hx24 := bt_lit a0 0 0 rfl
        clear p24
        have qi24 : (0 < (a0.size : Int)) = True := eq_true (of_decide_eq_true (by first | (with_reducible assumption) | assumption))
        replace q24 := eq_true q24
        go_enter Tryd.func36, Tryd.ntmps36
        go_wp2_with (first | ((with_reducible refine gate_callee (f := 56) rfl ?_); refine goesL_ (some 53) rfl rfl Tryd.func56 (by kernel_rfl) rfl #[.string js27] rfl (by (try simp only [List.map_toArray, List.map_cons, List.map_nil]); first | done | rfl | (simp only [List.length_drop, List.length_take]; rfl)) ?_; (with_reducible refine (fastjson_validateString.calls k js27 t162 t163 (some q165) _ A28.out (HG.out.below (by repeat (first | (with_reducible first | exact HB.out | apply below_alloc | apply pw_below_drewN | apply below_drew1) | exact HB.out)))).mono ?_); rintro e w38 ⟨evt164, rfl, hb⟩; refine ⟨_, rfl, ?_⟩; have n0_ := Aside0.mk (below_step (by repeat (first | (with_reducible first | exact HB.out | apply below_alloc | apply pw_below_drewN | apply below_drew1) | exact HB.out)) hb); clear HB; have HB := n0_; clear n0_; (try clear hb); (try clear hb2); (try clear hk); (try clear hi); (try simp only [errX_none, errX_some])) | ((with_reducible refine gate_callee (f := 37) rfl ?_); refine goesL_ (some 60) rfl rfl Tryd.func37 (by kernel_rfl) rfl #[.string (⟨#[99, 97, 110, 110, 111, 116, 32, 112, 97, 114, 115, 101, 32, 115, 116, 114, 105, 110, 103]⟩ : ByteArray)] rfl (by (try simp only [List.map_toArray, List.map_cons, List.map_nil]); first | done | rfl | (simp only [List.length_drop, List.length_take]; rfl)) ?_; (with_reducible refine (errors_New.calls (⟨#[99, 97, 110, 110, 111, 116, 32, 112, 97, 114, 115, 101, 32, 115, 116, 114, 105, 110, 103]⟩ : ByteArray) t167 _ A37.out).mono ?_); rintro e w39 ⟨evt167, rfl, hb⟩; refine ⟨_, rfl, ?_⟩; have n0_ := Aside0.mk (below_step (by repeat (first | (with_reducible first | exact HB.out | apply below_alloc | apply pw_below_drewN | apply below_drew1) | exact HB.out)) hb); clear HB; have HB := n0_; clear n0_; (try clear hb); (try clear hb2); (try clear hk); (try clear hi); (try simp only [errX_none, errX_some])))
        go_ret2
        first | exact ⟨evt167, by first | rfl | (simp [errX_none, errX_some] <;> rfl) | (simp only [← hjs27]; first | rfl | (simp [errX_none, errX_some] <;> rfl)) | (simp [*, errX_none, errX_some] <;> rfl), by repeat (first | (with_reducible first | exact HB.out | apply below_alloc | apply pw_below_drewN | apply below_drew1) | exact HB.out)⟩ | exact ⟨⟨(evt167).1, (evt167).2, by first | rfl | (simp [errX_none, errX_some] <;> rfl) | (simp only [← hjs27]; first | rfl | (simp [errX_none, errX_some] <;> rfl)) | (simp [*, errX_none, errX_some] <;> rfl)⟩, by repeat (first | (with_reducible first | exact HB.out | apply below_alloc | apply pw_below_drewN | apply below_drew1) | exact HB.out)⟩
      ·
       rw [if_neg c26] at H
       exact absurd H (by simp)
     ·
      rw [if_neg c25] at H
      have c25b0 : ((bt a0 0) == 34) = false := beq_eq_false_iff_ne.mpr c25
      have c25b1 : ((bt a0 0) != 34) = true := bne_iff_ne.mpr c25
      by_cases c41 : (bt a0 0) = 116
      ·
       rw [if_pos c41] at H
       have c41b0 : ((bt a0 0) == 116) = true := beq_iff_eq.mpr c41
       have c41b1 : ((bt a0 0) != 116) = false := bne_eq_false_iff_eq.mpr c41
       clear c41
       by_cases c42 : (a0.size : Int) < 4
       ·
        rw [if_pos c42] at H
        have c42b0 : decide ((a0.size : Int) < 4) = true := decide_eq_true c42
        have c42b1 : decide (a0.size < 4) = true := decide_eq_true (by omega)
        clear c42
        replace H := Option.bind_eq_some_iff.mp H
        obtain ⟨t168, A430, H⟩ := H
        replace H : (some (a0, t168)) = some (r1, r2) := H
        have A43 := Aside0.mk A430
        clear A430
        simp only [Option.some.injEq, Prod.mk.injEq] at H
        obtain ⟨rfl, rfl⟩ := H
        have p6 : 0 ≤ (0 : Int) := (by omega)
        have q6 : 0 < a0.size := (by have : (0 : Int) < (a0.size : Int) := of_decide_eq_true (by first | (with_reducible assumption) | assumption); omega)
        have hx6 := bt_lit a0 0 0 rfl
        clear p6
        have qi6 : (0 < (a0.size : Int)) = True := eq_true (of_decide_eq_true (by first | (with_reducible assumption) | assumption))
        replace q6 := eq_true q6
        have p15 : 0 ≤ (0 : Int) := (by omega)
        have q15 : 0 < a0.size := (by have : (0 : Int) < (a0.size : Int) := of_decide_eq_true (by first | (with_reducible assumption) | assumption); omega)
        have hx15 := bt_lit a0 0 0 rfl
        clear p15
        have qi15 : (0 < (a0.size : Int)) = True := eq_true (of_decide_eq_true (by first | (with_reducible assumption) | assumption))
        replace q15 := eq_true q15
        have p24 : 0 ≤ (0 : Int) := (by omega)
        have q24 : 0 < a0.size := (by have : (0 : Int) < (a0.size : Int) := of_decide_eq_true (by first | (with_reducible assumption) | assumption); omega)
        have hx24 := bt_lit a0 0 0 rfl
        clear p24
        have qi24 : (0 < (a0.size : Int)) = True := eq_true (of_decide_eq_true (by first | (with_reducible assumption) | assumption))
        replace q24 := eq_true q24
        have p40 : 0 ≤ (0 : Int) := (by omega)
        have q40 : 0 < a0.size := (by have : (0 : Int) < (a0.size : Int) := of_decide_eq_true (by first | (with_reducible assumption) | assumption); omega)
        have hx40 := bt_lit a0 0 0 rfl
        clear p40
        have qi40 : (0 < (a0.size : Int)) = True := eq_true (of_decide_eq_true (by first | (with_reducible assumption) | assumption))
        replace q40 := eq_true q40
        go_enter Tryd.func36, Tryd.ntmps36
        go_wp2_with (first | ((with_reducible refine gate_callee (f := 37) rfl ?_); refine goesL_ (some 86) rfl rfl Tryd.func37 (by kernel_rfl) rfl #[.string (⟨#[117, 110, 101, 120, 112, 101, 99, 116, 101, 100, 32, 118, 97, 108, 117, 101, 32, 102, 111, 117, 110, 100]⟩ : ByteArray)] rfl (by (try simp only [List.map_toArray, List.map_cons, List.map_nil]); first | done | rfl | (simp only [List.length_drop, List.length_take]; rfl)) ?_; (with_reducible refine (errors_New.calls (⟨#[117, 110, 101, 120, 112, 101, 99, 116, 101, 100, 32, 118, 97, 108, 117, 101, 32, 102, 111, 117, 110, 100]⟩ : ByteArray) t168 _ A43.out).mono ?_); rintro e w44 ⟨evt168, rfl, hb⟩; refine ⟨_, rfl, ?_⟩; have n0_ := Aside0.mk (below_step (by repeat (first | (with_reducible first | exact HB.out | apply below_alloc | apply pw_below_drewN | apply below_drew1) | exact HB.out)) hb); clear HB; have HB := n0_; clear n0_; (try clear hb); (try clear hb2); (try clear hk); (try clear hi); (try simp only [errX_none, errX_some])))
        go_ret2
        first | exact ⟨evt168, by first | rfl | (simp [errX_none, errX_some] <;> rfl) | (simp [*, errX_none, errX_some] <;> rfl), by repeat (first | (with_reducible first | exact HB.out | apply below_alloc | apply pw_below_drewN | apply below_drew1) | exact HB.out)⟩ | exact ⟨⟨(evt168).1, (evt168).2, by first | rfl | (simp [errX_none, errX_some] <;> rfl) | (simp [*, errX_none, errX_some] <;> rfl)⟩, by repeat (first | (with_reducible first | exact HB.out | apply below_alloc | apply pw_below_drewN | apply below_drew1) | exact HB.out)⟩
       ·
        rw [if_neg c42] at H
        have c42b0 : decide ((a0.size : Int) < 4) = false := decide_eq_false c42
        have c42b1 : decide (a0.size < 4) = false := decide_eq_false (by omega)
        clear c42
        by_cases c45 : 0 ≤ 4
        ·
         rw [if_pos c45] at H
         have c45b0 := eq_true c45
         have c45b1 : decide (0 ≤ 4) = true := decide_eq_true c45
         clear c45
         by_cases c46 : 4 ≤ (a0.size : Int)
         ·
          rw [if_pos c46] at H
          have c46b0 := eq_true c46
          have c46b1 : decide (4 ≤ (a0.size : Int)) = true := decide_eq_true c46
          clear c46
          obtain ⟨js47, hjs47⟩ : ∃ j_ : ByteArray, (a0.extract 0 4) = j_ := ⟨_, rfl⟩
          skip
          replace H : (if js47.toList = ([116, 114, 117, 101] : List UInt8) then (some (a0.extract 4 a0.size, none)) else ((errors_New.f (⟨#[117, 110, 101, 120, 112, 101, 99, 116, 101, 100, 32, 118, 97, 108, 117, 101, 32, 102, 111, 117, 110, 100]⟩ : ByteArray)).bind fun t169 => (some (a0, t169)))) = some (r1, r2) := by first | (rw [hjs47] at H; exact H) | (simp only [hjs47] at H ⊢; exact H)
          by_cases c48 : js47.toList = ([116, 114, 117, 101] : List UInt8)
          ·
           rw [if_pos c48] at H
           have c48b0 : (js47.toList == ([116, 114, 117, 101] : List UInt8)) = true := beq_iff_eq.mpr c48
           have c48b1 : (js47.toList != ([116, 114, 117, 101] : List UInt8)) = false := bne_eq_false_iff_eq.mpr c48
           clear c48
           have c49b0 := eq_true (of_decide_eq_true (by first | (with_reducible assumption) | assumption) : 4 ≤ (a0.size : Int))
           obtain ⟨js50, hjs50⟩ : ∃ j_ : ByteArray, (a0.extract 4 a0.size) = j_ := ⟨_, rfl⟩
           skip
           replace H : (some (js50, none)) = some (r1, r2) := by first | (rw [hjs50] at H; exact H) | (simp only [hjs50] at H ⊢; exact H)
           simp only [Option.some.injEq, Prod.mk.injEq] at H
           obtain ⟨rfl, rfl⟩ := H
           have p6 : 0 ≤ (0 : Int) := (by omega)
           have q6 : 0 < a0.size := (by have : (0 : Int) < (a0.size : Int) := of_decide_eq_true (by first | (with_reducible assumption) | assumption); omega)
           have hx6 := bt_lit a0 0 0 rfl
           clear p6
           have qi6 : (0 < (a0.size : Int)) = True := eq_true (of_decide_eq_true (by first | (with_reducible assumption) | assumption))
           replace q6 := eq_true q6
           have p15 : 0 ≤ (0 : Int) := (by omega)
           have q15 : 0 < a0.size := (by have : (0 : Int) < (a0.size : Int) := of_decide_eq_true (by first | (with_reducible assumption) | assumption); omega)
           have hx15 := bt_lit a0 0 0 rfl
           clear p15
           have qi15 : (0 < (a0.size : Int)) = True := eq_true (of_decide_eq_true (by first | (with_reducible assumption) | assumption))
           replace q15 := eq_true q15
           have p24 : 0 ≤ (0 : Int) := (by omega)
           have q24 : 0 < a0.size := (by have : (0 : Int) < (a0.size : Int) := of_decide_eq_true (by first | (with_reducible assumption) | assumption); omega)
           have hx24 := bt_lit a0 0 0 rfl
           clear p24
           have qi24 : (0 < (a0.size : Int)) = True := eq_true (of_decide_eq_true (by first | (with_reducible assumption) | assumption))
           replace q24 := eq_true q24
           have p40 : 0 ≤ (0 : Int) := (by omega)
           have q40 : 0 < a0.size := (by have : (0 : Int) < (a0.size : Int) := of_decide_eq_true (by first | (with_reducible assumption) | assumption); omega)
           have hx40 := bt_lit a0 0 0 rfl
           clear p40
           have qi40 : (0 < (a0.size : Int)) = True := eq_true (of_decide_eq_true (by first | (with_reducible assumption) | assumption))
           replace q40 := eq_true q40
           go_enter Tryd.func36, Tryd.ntmps36
           go_wp2
           go_ret2
           first | exact ⟨(0, Value.nilIface), by first | rfl | (simp [errX_none, errX_some] <;> rfl) | (simp only [← hjs47, ← hjs50]; first | rfl | (simp [errX_none, errX_some] <;> rfl)) | (simp [*, errX_none, errX_some] <;> rfl), by repeat (first | (with_reducible first | exact HB.out | apply below_alloc | apply pw_below_drewN | apply below_drew1) | exact HB.out)⟩ | exact ⟨⟨((0, Value.nilIface)).1, ((0, Value.nilIface)).2, by first | rfl | (simp [errX_none, errX_some] <;> rfl) | (simp only [← hjs47, ← hjs50]; first | rfl | (simp [errX_none, errX_some] <;> rfl)) | (simp [*, errX_none, errX_some] <;> rfl)⟩, by repeat (first | (with_reducible first | exact HB.out | apply below_alloc | apply pw_below_drewN | apply below_drew1) | exact HB.out)⟩
          ·
           rw [if_neg c48] at H
           have c48b0 : (js47.toList == ([116, 114, 117, 101] : List UInt8)) = false := beq_eq_false_iff_ne.mpr c48
           have c48b1 : (js47.toList != ([116, 114, 117, 101] : List UInt8)) = true := bne_iff_ne.mpr c48
           replace H := Option.bind_eq_some_iff.mp H
           obtain ⟨t169, A510, H⟩ := H
           replace H : (some (a0, t169)) = some (r1, r2) := H
           have A51 := Aside0.mk A510
           clear A510
           simp only [Option.some.injEq, Prod.mk.injEq] at H
           obtain ⟨rfl, rfl⟩ := H
           have p6 : 0 ≤ (0 : Int) := (by omega)
           have q6 : 0 < a0.size := (by have : (0 : Int) < (a0.size : Int) := of_decide_eq_true (by first | (with_reducible assumption) | assumption); omega)
           have hx6 := bt_lit a0 0 0 rfl
           clear p6
           have qi6 : (0 < (a0.size : Int)) = True := eq_true (of_decide_eq_true (by first | (with_reducible assumption) | assumption))
           replace q6 := eq_true q6
           have p15 : 0 ≤ (0 : Int) := (by omega)
           have q15 : 0 < a0.size := (by have : (0 : Int) < (a0.size : Int) := of_decide_eq_true (by first | (with_reducible assumption) | assumption); omega)
           have hx15 := bt_lit a0 0 0 rfl
           clear p15
           have qi15 : (0 < (a0.size : Int)) = True := eq_true (of_decide_eq_true (by first | (with_reducible assumption) | assumption))
           replace q15 := eq_true q15
           have p24 : 0 ≤ (0 : Int) := (by omega)
           have q24 : 0 < a0.size := (by have : (0 : Int) < (a0.size : Int) := of_decide_eq_true (by first | (with_reducible assumption) | assumption); omega)
           have hx24 := bt_lit a0 0 0 rfl
           clear p24
           have qi24 : (0 < (a0.size : Int)) = True := eq_true (of_decide_eq_true (by first | (with_reducible assumption) | assumption))
           replace q24 := eq_true q24
           have p40 : 0 ≤ (0 : Int) := (by omega)
           have q40 : 0 < a0.size := (by have : (0 : Int) < (a0.size : Int) := of_decide_eq_true (by first | (with_reducible assumption) | assumption); omega)
           have hx40 := bt_lit a0 0 0 rfl
           clear p40
           have qi40 : (0 < (a0.size : Int)) = True := eq_true (of_decide_eq_true (by first | (with_reducible assumption) | assumption))
           replace q40 := eq_true q40
           go_enter Tryd.func36, Tryd.ntmps36
           go_wp2_with (first | ((with_reducible refine gate_callee (f := 37) rfl ?_); refine goesL_ (some 86) rfl rfl Tryd.func37 (by kernel_rfl) rfl #[.string (⟨#[117, 110, 101, 120, 112, 101, 99, 116, 101, 100, 32, 118, 97, 108, 117, 101, 32, 102, 111, 117, 110, 100]⟩ : ByteArray)] rfl (by (try simp only [List.map_toArray, List.map_cons, List.map_nil]); first | done | rfl | (simp only [List.length_drop, List.length_take]; rfl)) ?_; (with_reducible refine (errors_New.calls (⟨#[117, 110, 101, 120, 112, 101, 99, 116, 101, 100, 32, 118, 97, 108, 117, 101, 32, 102, 111, 117, 110, 100]⟩ : ByteArray) t169 _ A51.out).mono ?_); rintro e w52 ⟨evt169, rfl, hb⟩; refine ⟨_, rfl, ?_⟩; have n0_ := Aside0.mk (below_step (by repeat (first | (with_reducible first | exact HB.out | apply below_alloc | apply pw_below_drewN | apply below_drew1) | exact HB.out)) hb); clear HB; have HB := n0_; clear n0_; (try clear hb); (try clear hb2); (try clear hk); (try clear hi); (try simp only [errX_none, errX_some])))
           go_ret2
           first | exact ⟨evt169, by first | rfl | (simp [errX_none, errX_some] <;> rfl) | (simp only [← hjs47]; first | rfl | (simp [errX_none, errX_some] <;> rfl)) | (simp [*, errX_none, errX_some] <;> rfl), by repeat (first | (with_reducible first | exact HB.out | apply below_alloc | apply pw_below_drewN | apply below_drew1) | exact HB.out)⟩ | exact ⟨⟨(evt169).1, (evt169).2, by first | rfl | (simp [errX_none, errX_some] <;> rfl) | (simp only [← hjs47]; first | rfl | (simp [errX_none, errX_some] <;> rfl)) | (simp [*, errX_none, errX_some] <;> rfl)⟩, by repeat (first | (with_reducible first | exact HB.out | apply below_alloc | apply pw_below_drewN | apply below_drew1) | exact HB.out)⟩
         ·
          rw [if_neg c46] at H
          exact absurd H (by simp)
        ·
         rw [if_neg c45] at H
         exact absurd H (by simp)
      ·
       rw [if_neg c41] at H
       have c41b0 : ((bt a0 0) == 116) = false := beq_eq_false_iff_ne.mpr c41
       have c41b1 : ((bt a0 0) != 116) = true := bne_iff_ne.mpr c41
       by_cases c54 : (bt a0 0) = 102
       ·
        rw [if_pos c54] at H
        have c54b0 : ((bt a0 0) == 102) = true := beq_iff_eq.mpr c54
        have c54b1 : ((bt a0 0) != 102) = false := bne_eq_false_iff_eq.mpr c54
        clear c54
        by_cases c55 : (a0.size : Int) < 5
        ·
         rw [if_pos c55] at H
         have c55b0 : decide ((a0.size : Int) < 5) = true := decide_eq_true c55
         have c55b1 : decide (a0.size < 5) = true := decide_eq_true (by omega)
         clear c55
         replace H := Option.bind_eq_some_iff.mp H
         obtain ⟨t170, A560, H⟩ := H
         replace H : (some (a0, t170)) = some (r1, r2) := H
         have A56 := Aside0.mk A560
         clear A560
         simp only [Option.some.injEq, Prod.mk.injEq] at H
         obtain ⟨rfl, rfl⟩ := H
         have p6 : 0 ≤ (0 : Int) := (by omega)
         have q6 : 0 < a0.size := (by have : (0 : Int) < (a0.size : Int) := of_decide_eq_true (by first | (with_reducible assumption) | assumption); omega)
         have hx6 := bt_lit a0 0 0 rfl
         clear p6
         have qi6 : (0 < (a0.size : Int)) = True := eq_true (of_decide_eq_true (by first | (with_reducible assumption) | assumption))
         replace q6 := eq_true q6
         have p15 : 0 ≤ (0 : Int) := (by omega)
         have q15 : 0 < a0.size := (by have : (0 : Int) < (a0.size : Int) := of_decide_eq_true (by first | (with_reducible assumption) | assumption); omega)
         have hx15 := bt_lit a0 0 0 rfl
         clear p15
         have qi15 : (0 < (a0.size : Int)) = True := eq_true (of_decide_eq_true (by first | (with_reducible assumption) | assumption))
         replace q15 := eq_true q15
         have p24 : 0 ≤ (0 : Int) := (by omega)
         have q24 : 0 < a0.size := (by have : (0 : Int) < (a0.size : Int) := of_decide_eq_true (by first | (with_reducible assumption) | assumption); omega)
         have hx24 := bt_lit a0 0 0 rfl
         clear p24
         have qi24 : (0 < (a0.size : Int)) = True := eq_true (of_decide_eq_true (by first | (with_reducible assumption) | assumption))
         replace q24 := eq_true q24
         have p40 : 0 ≤ (0 : Int) := (by omega)
         have q40 : 0 < a0.size := (by have : (0 : Int) < (a0.size : Int) := of_decide_eq_true (by first | (with_reducible assumption) | assumption); omega)
         have hx40 := bt_lit a0 0 0 rfl
         clear p40
         have qi40 : (0 < (a0.size : Int)) = True := eq_true (of_decide_eq_true (by first | (with_reducible assumption) | assumption))
         replace q40 := eq_true q40
         have p53 : 0 ≤ (0 : Int) := (by omega)
         have q53 : 0 < a0.size := (by have : (0 : Int) < (a0.size : Int) := of_decide_eq_true (by first | (with_reducible assumption) | assumption); omega)
         have hx53 := bt_lit a0 0 0 rfl
         clear p53
         have qi53 : (0 < (a0.size : Int)) = True := eq_true (of_decide_eq_true (by first | (with_reducible assumption) | assumption))
         replace q53 := eq_true q53
         go_enter Tryd.func36, Tryd.ntmps36
         go_wp2_with (first | ((with_reducible refine gate_callee (f := 37) rfl ?_); refine goesL_ (some 101) rfl rfl Tryd.func37 (by kernel_rfl) rfl #[.string (⟨#[117, 110, 101, 120, 112, 101, 99, 116, 101, 100, 32, 118, 97, 108, 117, 101, 32, 102, 111, 117, 110, 100]⟩ : ByteArray)] rfl (by (try simp only [List.map_toArray, List.map_cons, List.map_nil]); first | done | rfl | (simp only [List.length_drop, List.length_take]; rfl)) ?_; (with_reducible refine (errors_New.calls (⟨#[117, 110, 101, 120, 112, 101, 99, 116, 101, 100, 32, 118, 97, 108, 117, 101, 32, 102, 111, 117, 110, 100]⟩ : ByteArray) t170 _ A56.out).mono ?_); rintro e w57 ⟨evt170, rfl, hb⟩; refine ⟨_, rfl, ?_⟩; have n0_ := Aside0.mk (below_step (by repeat (first | (with_reducible first | exact HB.out | apply below_alloc | apply pw_below_drewN | apply below_drew1) | exact HB.out)) hb); clear HB; have HB := n0_; clear n0_; (try clear hb); (try clear hb2); (try clear hk); (try clear hi); (try simp only [errX_none, errX_some])))
         go_ret2
         first | exact ⟨evt170, by first | rfl | (simp [errX_none, errX_some] <;> rfl) | (simp [*, errX_none, errX_some] <;> rfl), by repeat (first | (with_reducible first | exact HB.out | apply below_alloc | apply pw_below_drewN | apply below_drew1) | exact HB.out)⟩ | exact ⟨⟨(evt170).1, (evt170).2, by first | rfl | (simp [errX_none, errX_some] <;> rfl) | (simp [*, errX_none, errX_some] <;> rfl)⟩, by repeat (first | (with_reducible first | exact HB.out | apply below_alloc | apply pw_below_drewN | apply below_drew1) | exact HB.out)⟩
        ·
         rw [if_neg c55] at H
         have c55b0 : decide ((a0.size : Int) < 5) = false := decide_eq_false c55
         have c55b1 : decide (a0.size < 5) = false := decide_eq_false (by omega)
         clear c55
         by_cases c58 : 0 ≤ 5
         ·
          rw [if_pos c58] at H
          have c58b0 := eq_true c58
          have c58b1 : decide (0 ≤ 5) = true := decide_eq_true c58
          clear c58
          by_cases c59 : 5 ≤ (a0.size : Int)
          ·
           rw [if_pos c59] at H
           have c59b0 := eq_true c59
           have c59b1 : decide (5 ≤ (a0.size : Int)) = true := decide_eq_true c59
           clear c59
           obtain ⟨js60, hjs60⟩ : ∃ j_ : ByteArray, (a0.extract 0 5) = j_ := ⟨_, rfl⟩
           skip
           replace H : (if js60.toList = ([102, 97, 108, 115, 101] : List UInt8) then (some (a0.extract 5 a0.size, none)) else ((errors_New.f (⟨#[117, 110, 101, 120, 112, 101, 99, 116, 101, 100, 32, 118, 97, 108, 117, 101, 32, 102, 111, 117, 110, 100]⟩ : ByteArray)).bind fun t171 => (some (a0, t171)))) = some (r1, r2) := by first | (rw [hjs60] at H; exact H) | (simp only [hjs60] at H ⊢; exact H)
           by_cases c61 : js60.toList = ([102, 97, 108, 115, 101] : List UInt8)
           ·
            rw [if_pos c61] at H
            have c61b0 : (js60.toList == ([102, 97, 108, 115, 101] : List UInt8)) = true := beq_iff_eq.mpr c61
            have c61b1 : (js60.toList != ([102, 97, 108, 115, 101] : List UInt8)) = false := bne_eq_false_iff_eq.mpr c61
            clear c61
            have c62b0 := eq_true (of_decide_eq_true (by first | (with_reducible assumption) | assumption) : 5 ≤ (a0.size : Int))
            obtain ⟨js63, hjs63⟩ : ∃ j_ : ByteArray, (a0.extract 5 a0.size) = j_ := ⟨_, rfl⟩
            skip
            replace H : (some (js63, none)) = some (r1, r2) := by first | (rw [hjs63] at H; exact H) | (simp only [hjs63] at H ⊢; exact H)
            simp only [Option.some.injEq, Prod.mk.injEq] at H
            obtain ⟨rfl, rfl⟩ := H
            have p6 : 0 ≤ (0 : Int) := (by omega)
            have q6 : 0 < a0.size := (by have : (0 : Int) < (a0.size : Int) := of_decide_eq_true (by first | (with_reducible assumption) | assumption); omega)
            have hx6 := bt_lit a0 0 0 rfl
            clear p6
            have qi6 : (0 < (a0.size : Int)) = True := eq_true (of_decide_eq_true (by first | (with_reducible assumption) | assumption))
            replace q6 := eq_true q6
            have p15 : 0 ≤ (0 : Int) := (by omega)
            have q15 : 0 < a0.size := (by have : (0 : Int) < (a0.size : Int) := of_decide_eq_true (by first | (with_reducible assumption) | assumption); omega)
            have hx15 := bt_lit a0 0 0 rfl
            clear p15
            have qi15 : (0 < (a0.size : Int)) = True := eq_true (of_decide_eq_true (by first | (with_reducible assumption) | assumption))
            replace q15 := eq_true q15
            have p24 : 0 ≤ (0 : Int) := (by omega)
            have q24 : 0 < a0.size := (by have : (0 : Int) < (a0.size : Int) := of_decide_eq_true (by first | (with_reducible assumption) | assumption); omega)
            have hx24 := bt_lit a0 0 0 rfl
            clear p24
            have qi24 : (0 < (a0.size : Int)) = True := eq_true (of_decide_eq_true (by first | (with_reducible assumption) | assumption))
            replace q24 := eq_true q24
            have p40 : 0 ≤ (0 : Int) := (by omega)
            have q40 : 0 < a0.size := (by have : (0 : Int) < (a0.size : Int) := of_decide_eq_true (by first | (with_reducible assumption) | assumption); omega)
            have hx40 := bt_lit a0 0 0 rfl
            clear p40
            have qi40 : (0 < (a0.size : Int)) = True := eq_true (of_decide_eq_true (by first | (with_reducible assumption) | assumption))
            replace q40 := eq_true q40
            have p53 : 0 ≤ (0 : Int) := (by omega)
            have q53 : 0 < a0.size := (by have : (0 : Int) < (a0.size : Int) := of_decide_eq_true (by first | (with_reducible assumption) | assumption); omega)
            have hx53 := bt_lit a0 0 0 rfl
            clear p53
            have qi53 : (0 < (a0.size : Int)) = True := eq_true (of_decide_eq_true (by first | (with_reducible assumption) | assumption))
            replace q53 := eq_true q53
            go_enter Tryd.func36, Tryd.ntmps36
            go_wp2
            go_ret2
            first | exact ⟨(0, Value.nilIface), by first | rfl | (simp [errX_none, errX_some] <;> rfl) | (simp only [← hjs60, ← hjs63]; first | rfl | (simp [errX_none, errX_some] <;> rfl)) | (simp [*, errX_none, errX_some] <;> rfl), by repeat (first | (with_reducible first | exact HB.out | apply below_alloc | apply pw_below_drewN | apply below_drew1) | exact HB.out)⟩ | exact ⟨⟨((0, Value.nilIface)).1, ((0, Value.nilIface)).2, by first | rfl | (simp [errX_none, errX_some] <;> rfl) | (simp only [← hjs60, ← hjs63]; first | rfl | (simp [errX_none, errX_some] <;> rfl)) | (simp [*, errX_none, errX_some] <;> rfl)⟩, by repeat (first | (with_reducible first | exact HB.out | apply below_alloc | apply pw_below_drewN | apply below_drew1) | exact HB.out)⟩
           ·
            rw [if_neg c61] at H
            have c61b0 : (js60.toList == ([102, 97, 108, 115, 101] : List UInt8)) = false := beq_eq_false_iff_ne.mpr c61
            have c61b1 : (js60.toList != ([102, 97, 108, 115, 101] : List UInt8)) = true := bne_iff_ne.mpr c61
            replace H := Option.bind_eq_some_iff.mp H
            obtain ⟨t171, A640, H⟩ := H
            replace H : (some (a0, t171)) = some (r1, r2) := H
            have A64 := Aside0.mk A640
            clear A640
            simp only [Option.some.injEq, Prod.mk.injEq] at H
            obtain ⟨rfl, rfl⟩ := H
            have p6 : 0 ≤ (0 : Int) := (by omega)
            have q6 : 0 < a0.size := (by have : (0 : Int) < (a0.size : Int) := of_decide_eq_true (by first | (with_reducible assumption) | assumption); omega)
            have hx6 := bt_lit a0 0 0 rfl
            clear p6
            have qi6 : (0 < (a0.size : Int)) = True := eq_true (of_decide_eq_true (by first | (with_reducible assumption) | assumption))
            replace q6 := eq_true q6
            have p15 : 0 ≤ (0 : Int) := (by omega)
            have q15 : 0 < a0.size := (by have : (0 : Int) < (a0.size : Int) := of_decide_eq_true (by first | (with_reducible assumption) | assumption); omega)
            have hx15 := bt_lit a0 0 0 rfl
            clear p15
            have qi15 : (0 < (a0.size : Int)) = True := eq_true (of_decide_eq_true (by first | (with_reducible assumption) | assumption))
            replace q15 := eq_true q15
            have p24 : 0 ≤ (0 : Int) := (by omega)
            have q24 : 0 < a0.size := (by have : (0 : Int) < (a0.size : Int) := of_decide_eq_true (by first | (with_reducible assumption) | assumption); omega)
            have hx24 := bt_lit a0 0 0 rfl
            clear p24
            have qi24 : (0 < (a0.size : Int)) = True := eq_true (of_decide_eq_true (by first | (with_reducible assumption) | assumption))
            replace q24 := eq_true q24
            have p40 : 0 ≤ (0 : Int) := (by omega)
            have q40 : 0 < a0.size := (by have : (0 : Int) < (a0.size : Int) := of_decide_eq_true (by first | (with_reducible assumption) | assumption); omega)
            have hx40 := bt_lit a0 0 0 rfl
            clear p40
            have qi40 : (0 < (a0.size : Int)) = True := eq_true (of_decide_eq_true (by first | (with_reducible assumption) | assumption))
            replace q40 := eq_true q40
            have p53 : 0 ≤ (0 : Int) := (by omega)
            have q53 : 0 < a0.size := (by have : (0 : Int) < (a0.size : Int) := of_decide_eq_true (by first | (with_reducible assumption) | assumption); omega)
            have hx53 := bt_lit a0 0 0 rfl
            clear p53
            have qi53 : (0 < (a0.size : Int)) = True := eq_true (of_decide_eq_true (by first | (with_reducible assumption) | assumption))
            replace q53 := eq_true q53
            go_enter Tryd.func36, Tryd.ntmps36
            go_wp2_with (first | ((with_reducible refine gate_callee (f := 37) rfl ?_); refine goesL_ (some 101) rfl rfl Tryd.func37 (by kernel_rfl) rfl #[.string (⟨#[117, 110, 101, 120, 112, 101, 99, 116, 101, 100, 32, 118, 97, 108, 117, 101, 32, 102, 111, 117, 110, 100]⟩ : ByteArray)] rfl (by (try simp only [List.map_toArray, List.map_cons, List.map_nil]); first | done | rfl | (simp only [List.length_drop, List.length_take]; rfl)) ?_; (with_reducible refine (errors_New.calls (⟨#[117, 110, 101, 120, 112, 101, 99, 116, 101, 100, 32, 118, 97, 108, 117, 101, 32, 102, 111, 117, 110, 100]⟩ : ByteArray) t171 _ A64.out).mono ?_); rintro e w65 ⟨evt171, rfl, hb⟩; refine ⟨_, rfl, ?_⟩; have n0_ := Aside0.mk (below_step (by repeat (first | (with_reducible first | exact HB.out | apply below_alloc | apply pw_below_drewN | apply below_drew1) | exact HB.out)) hb); clear HB; have HB := n0_; clear n0_; (try clear hb); (try clear hb2); (try clear hk); (try clear hi); (try simp only [errX_none, errX_some])))
            go_ret2
            first | exact ⟨evt171, by first | rfl | (simp [errX_none, errX_some] <;> rfl) | (simp only [← hjs60]; first | rfl | (simp [errX_none, errX_some] <;> rfl)) | (simp [*, errX_none, errX_some] <;> rfl), by repeat (first | (with_reducible first | exact HB.out | apply below_alloc | apply pw_below_drewN | apply below_drew1) | exact HB.out)⟩ | exact ⟨⟨(evt171).1, (evt171).2, by first | rfl | (simp [errX_none, errX_some] <;> rfl) | (simp only [← hjs60]; first | rfl | (simp [errX_none, errX_some] <;> rfl)) | (simp [*, errX_none, errX_some] <;> rfl)⟩, by repeat (first | (with_reducible first | exact HB.out | apply below_alloc | apply pw_below_drewN | apply below_drew1) | exact HB.out)⟩
          ·
           rw [if_neg c59] at H
           exact absurd H (by simp)
         ·
          rw [if_neg c58] at H
          exact absurd H (by simp)
       ·
        rw [if_neg c54] at H
        have c54b0 : ((bt a0 0) == 102) = false := beq_eq_false_iff_ne.mpr c54
        have c54b1 : ((bt a0 0) != 102) = true := bne_iff_ne.mpr c54
        by_cases c67 : (bt a0 0) = 110
        ·
         rw [if_pos c67] at H
         have c67b0 : ((bt a0 0) == 110) = true := beq_iff_eq.mpr c67
         have c67b1 : ((bt a0 0) != 110) = false := bne_eq_false_iff_eq.mpr c67
         clear c67
         by_cases c68 : (a0.size : Int) < 4
         ·
          rw [if_pos c68] at H
          have c68b0 : decide ((a0.size : Int) < 4) = true := decide_eq_true c68
          have c68b1 : decide (a0.size < 4) = true := decide_eq_true (by omega)
          clear c68
          replace H := Option.bind_eq_some_iff.mp H
          obtain ⟨t172, A690, H⟩ := H
          replace H : (some (a0, t172)) = some (r1, r2) := H
          have A69 := Aside0.mk A690
          clear A690
          simp only [Option.some.injEq, Prod.mk.injEq] at H
          obtain ⟨rfl, rfl⟩ := H
          have p6 : 0 ≤ (0 : Int) := (by omega)
          have q6 : 0 < a0.size := (by have : (0 : Int) < (a0.size : Int) := of_decide_eq_true (by first | (with_reducible assumption) | assumption); omega)
          have hx6 := bt_lit a0 0 0 rfl
          clear p6
          have qi6 : (0 < (a0.size : Int)) = True := eq_true (of_decide_eq_true (by first | (with_reducible assumption) | assumption))
          replace q6 := eq_true q6
          have p15 : 0 ≤ (0 : Int) := (by omega)
          have q15 : 0 < a0.size := (by have : (0 : Int) < (a0.size : Int) := of_decide_eq_true (by first | (with_reducible assumption) | assumption); omega)
          have hx15 := bt_lit a0 0 0 rfl
          clear p15
          have qi15 : (0 < (a0.size : Int)) = True := eq_true (of_decide_eq_true (by first | (with_reducible assumption) | assumption))
          replace q15 := eq_true q15
          have p24 : 0 ≤ (0 : Int) := (by omega)
          have q24 : 0 < a0.size := (by have : (0 : Int) < (a0.size : Int) := of_decide_eq_true (by first | (with_reducible assumption) | assumption); omega)
          have hx24 := bt_lit a0 0 0 rfl
          clear p24
          have qi24 : (0 < (a0.size : Int)) = True := eq_true (of_decide_eq_true (by first | (with_reducible assumption) | assumption))
          replace q24 := eq_true q24
          have p40 : 0 ≤ (0 : Int) := (by omega)
          have q40 : 0 < a0.size := (by have : (0 : Int) < (a0.size : Int) := of_decide_eq_true (by first | (with_reducible assumption) | assumption); omega)
          have hx40 := bt_lit a0 0 0 rfl
          clear p40
          have qi40 : (0 < (a0.size : Int)) = True := eq_true (of_decide_eq_true (by first | (with_reducible assumption) | assumption))
          replace q40 := eq_true q40
          have p53 : 0 ≤ (0 : Int) := (by omega)
          have q53 : 0 < a0.size := (by have : (0 : Int) < (a0.size : Int) := of_decide_eq_true (by first | (with_reducible assumption) | assumption); omega)
          have hx53 := bt_lit a0 0 0 rfl
          clear p53
          have qi53 : (0 < (a0.size : Int)) = True := eq_true (of_decide_eq_true (by first | (with_reducible assumption) | assumption))
          replace q53 := eq_true q53
          have p66 : 0 ≤ (0 : Int) := (by omega)
          have q66 : 0 < a0.size := (by have : (0 : Int) < (a0.size : Int) := of_decide_eq_true (by first | (with_reducible assumption) | assumption); omega)
          have hx66 := bt_lit a0 0 0 rfl
          clear p66
          have qi66 : (0 < (a0.size : Int)) = True := eq_true (of_decide_eq_true (by first | (with_reducible assumption) | assumption))
          replace q66 := eq_true q66
          go_enter Tryd.func36, Tryd.ntmps36
          go_wp2_with (first | ((with_reducible refine gate_callee (f := 37) rfl ?_); refine goesL_ (some 116) rfl rfl Tryd.func37 (by kernel_rfl) rfl #[.string (⟨#[117, 110, 101, 120, 112, 101, 99, 116, 101, 100, 32, 118, 97, 108, 117, 101, 32, 102, 111, 117, 110, 100]⟩ : ByteArray)] rfl (by (try simp only [List.map_toArray, List.map_cons, List.map_nil]); first | done | rfl | (simp only [List.length_drop, List.length_take]; rfl)) ?_; (with_reducible refine (errors_New.calls (⟨#[117, 110, 101, 120, 112, 101, 99, 116, 101, 100, 32, 118, 97, 108, 117, 101, 32, 102, 111, 117, 110, 100]⟩ : ByteArray) t172 _ A69.out).mono ?_); rintro e w70 ⟨evt172, rfl, hb⟩; refine ⟨_, rfl, ?_⟩; have n0_ := Aside0.mk (below_step (by repeat (first | (with_reducible first | exact HB.out | apply below_alloc | apply pw_below_drewN | apply below_drew1) | exact HB.out)) hb); clear HB; have HB := n0_; clear n0_; (try clear hb); (try clear hb2); (try clear hk); (try clear hi); (try simp only [errX_none, errX_some])))
          go_ret2
          first | exact ⟨evt172, by first | rfl | (simp [errX_none, errX_some] <;> rfl) | (simp [*, errX_none, errX_some] <;> rfl), by repeat (first | (with_reducible first | exact HB.out | apply below_alloc | apply pw_below_drewN | apply below_drew1) | exact HB.out)⟩ | exact ⟨⟨(evt172).1, (evt172).2, by first | rfl | (simp [errX_none, errX_some] <;> rfl) | (simp [*, errX_none, errX_some] <;> rfl)⟩, by repeat (first | (with_reducible first | exact HB.out | apply below_alloc | apply pw_below_drewN | apply below_drew1) | exact HB.out)⟩
         ·
          rw [if_neg c68] at H
          have c68b0 : decide ((a0.size : Int) < 4) = false := decide_eq_false c68
          have c68b1 : decide (a0.size < 4) = false := decide_eq_false (by omega)
          clear c68
          by_cases c71 : 0 ≤ 4
          ·
           rw [if_pos c71] at H
           have c71b0 := eq_true c71
           have c71b1 : decide (0 ≤ 4) = true := decide_eq_true c71
           clear c71
           by_cases c72 : 4 ≤ (a0.size : Int)
           ·
            rw [if_pos c72] at H
            have c72b0 := eq_true c72
            have c72b1 : decide (4 ≤ (a0.size : Int)) = true := decide_eq_true c72
            clear c72
            obtain ⟨js73, hjs73⟩ : ∃ j_ : ByteArray, (a0.extract 0 4) = j_ := ⟨_, rfl⟩
            skip
            replace H : (if js73.toList = ([110, 117, 108, 108] : List UInt8) then (some (a0.extract 4 a0.size, none)) else ((errors_New.f (⟨#[117, 110, 101, 120, 112, 101, 99, 116, 101, 100, 32, 118, 97, 108, 117, 101, 32, 102, 111, 117, 110, 100]⟩ : ByteArray)).bind fun t173 => (some (a0, t173)))) = some (r1, r2) := by first | (rw [hjs73] at H; exact H) | (simp only [hjs73] at H ⊢; exact H)
            by_cases c74 : js73.toList = ([110, 117, 108, 108] : List UInt8)
            ·
             rw [if_pos c74] at H
             have c74b0 : (js73.toList == ([110, 117, 108, 108] : List UInt8)) = true := beq_iff_eq.mpr c74
             have c74b1 : (js73.toList != ([110, 117, 108, 108] : List UInt8)) = false := bne_eq_false_iff_eq.mpr c74
             clear c74
             have c75b0 := eq_true (of_decide_eq_true (by first | (with_reducible assumption) | assumption) : 4 ≤ (a0.size : Int))
             obtain ⟨js76, hjs76⟩ : ∃ j_ : ByteArray, (a0.extract 4 a0.size) = j_ := ⟨_, rfl⟩
             skip
             replace H : (some (js76, none)) = some (r1, r2) := by first | (rw [hjs76] at H; exact H) | (simp only [hjs76] at H ⊢; exact H)
             simp only [Option.some.injEq, Prod.mk.injEq] at H
             obtain ⟨rfl, rfl⟩ := H
             have p6 : 0 ≤ (0 : Int) := (by omega)
             have q6 : 0 < a0.size := (by have : (0 : Int) < (a0.size : Int) := of_decide_eq_true (by first | (with_reducible assumption) | assumption); omega)
             have hx6 := bt_lit a0 0 0 rfl
             clear p6
             have qi6 : (0 < (a0.size : Int)) = True := eq_true (of_decide_eq_true (by first | (with_reducible assumption) | assumption))
             replace q6 := eq_true q6
             have p15 : 0 ≤ (0 : Int) := (by omega)
             have q15 : 0 < a0.size := (by have : (0 : Int) < (a0.size : Int) := of_decide_eq_true (by first | (with_reducible assumption) | assumption); omega)
             have hx15 := bt_lit a0 0 0 rfl
             clear p15
             have qi15 : (0 < (a0.size : Int)) = True := eq_true (of_decide_eq_true (by first | (with_reducible assumption) | assumption))
             replace q15 := eq_true q15
             have p24 : 0 ≤ (0 : Int) := (by omega)
             have q24 : 0 < a0.size := (by have : (0 : Int) < (a0.size : Int) := of_decide_eq_true (by first | (with_reducible assumption) | assumption); omega)
             have hx24 := bt_lit a0 0 0 rfl
             clear p24
             have qi24 : (0 < (a0.size : Int)) = True := eq_true (of_decide_eq_true (by first | (with_reducible assumption) | assumption))
             replace q24 := eq_true q24
             have p40 : 0 ≤ (0 : Int) := (by omega)
             have q40 : 0 < a0.size := (by have : (0 : Int) < (a0.size : Int) := of_decide_eq_true (by first | (with_reducible assumption) | assumption); omega)
             have hx40 := bt_lit a0 0 0 rfl
             clear p40
             have qi40 : (0 < (a0.size : Int)) = True := eq_true (of_decide_eq_true (by first | (with_reducible assumption) | assumption))
             replace q40 := eq_true q40
             have p53 : 0 ≤ (0 : Int) := (by omega)
             have q53 : 0 < a0.size := (by have : (0 : Int) < (a0.size : Int) := of_decide_eq_true (by first | (with_reducible assumption) | assumption); omega)
             have hx53 := bt_lit a0 0 0 rfl
             clear p53
             have qi53 : (0 < (a0.size : Int)) = True := eq_true (of_decide_eq_true (by first | (with_reducible assumption) | assumption))
             replace q53 := eq_true q53
             have p66 : 0 ≤ (0 : Int) := (by omega)
             have q66 : 0 < a0.size := (by have : (0 : Int) < (a0.size : Int) := of_decide_eq_true (by first | (with_reducible assumption) | assumption); omega)
             have hx66 := bt_lit a0 0 0 rfl
             clear p66
             have qi66 : (0 < (a0.size : Int)) = True := eq_true (of_decide_eq_true (by first | (with_reducible assumption) | assumption))
             replace q66 := eq_true q66
             go_enter Tryd.func36, Tryd.ntmps36
             go_wp2
             go_ret2
             first | exact ⟨(0, Value.nilIface), by first | rfl | (simp [errX_none, errX_some] <;> rfl) | (simp only [← hjs73, ← hjs76]; first | rfl | (simp [errX_none, errX_some] <;> rfl)) | (simp [*, errX_none, errX_some] <;> rfl), by repeat (first | (with_reducible first | exact HB.out | apply below_alloc | apply pw_below_drewN | apply below_drew1) | exact HB.out)⟩ | exact ⟨⟨((0, Value.nilIface)).1, ((0, Value.nilIface)).2, by first | rfl | (simp [errX_none, errX_some] <;> rfl) | (simp only [← hjs73, ← hjs76]; first | rfl | (simp [errX_none, errX_some] <;> rfl)) | (simp [*, errX_none, errX_some] <;> rfl)⟩, by repeat (first | (with_reducible first | exact HB.out | apply below_alloc | apply pw_below_drewN | apply below_drew1) | exact HB.out)⟩
            ·
             rw [if_neg c74] at H
             have c74b0 : (js73.toList == ([110, 117, 108, 108] : List UInt8)) = false := beq_eq_false_iff_ne.mpr c74
             have c74b1 : (js73.toList != ([110, 117, 108, 108] : List UInt8)) = true := bne_iff_ne.mpr c74
             replace H := Option.bind_eq_some_iff.mp H
             obtain ⟨t173, A770, H⟩ := H
             replace H : (some (a0, t173)) = some (r1, r2) := H
             have A77 := Aside0.mk A770
             clear A770
             simp only [Option.some.injEq, Prod.mk.injEq] at H
             obtain ⟨rfl, rfl⟩ := H
             have p6 : 0 ≤ (0 : Int) := (by omega)
             have q6 : 0 < a0.size := (by have : (0 : Int) < (a0.size : Int) := of_decide_eq_true (by first | (with_reducible assumption) | assumption); omega)
             have hx6 := bt_lit a0 0 0 rfl
             clear p6
             have qi6 : (0 < (a0.size : Int)) = True := eq_true (of_decide_eq_true (by first | (with_reducible assumption) | assumption))
             replace q6 := eq_true q6
             have p15 : 0 ≤ (0 : Int) := (by omega)
             have q15 : 0 < a0.size := (by have : (0 : Int) < (a0.size : Int) := of_decide_eq_true (by first | (with_reducible assumption) | assumption); omega)
             have hx15 := bt_lit a0 0 0 rfl
             clear p15
             have qi15 : (0 < (a0.size : Int)) = True := eq_true (of_decide_eq_true (by first | (with_reducible assumption) | assumption))
             replace q15 := eq_true q15
             have p24 : 0 ≤ (0 : Int) := (by omega)
             have q24 : 0 < a0.size := (by have : (0 : Int) < (a0.size : Int) := of_decide_eq_true (by first | (with_reducible assumption) | assumption); omega)
             have hx24 := bt_lit a0 0 0 rfl
             clear p24
             have qi24 : (0 < (a0.size : Int)) = True := eq_true (of_decide_eq_true (by first | (with_reducible assumption) | assumption))
             replace q24 := eq_true q24
             have p40 : 0 ≤ (0 : Int) := (by omega)
             have q40 : 0 < a0.size := (by have : (0 : Int) < (a0.size : Int) := of_decide_eq_true (by first | (with_reducible assumption) | assumption); omega)
             have hx40 := bt_lit a0 0 0 rfl
             clear p40
             have qi40 : (0 < (a0.size : Int)) = True := eq_true (of_decide_eq_true (by first | (with_reducible assumption) | assumption))
             replace q40 := eq_true q40
             have p53 : 0 ≤ (0 : Int) := (by omega)
             have q53 : 0 < a0.size := (by have : (0 : Int) < (a0.size : Int) := of_decide_eq_true (by first | (with_reducible assumption) | assumption); omega)
             have hx53 := bt_lit a0 0 0 rfl
             clear p53
             have qi53 : (0 < (a0.size : Int)) = True := eq_true (of_decide_eq_true (by first | (with_reducible assumption) | assumption))
             replace q53 := eq_true q53
             have p66 : 0 ≤ (0 : Int) := (by omega)
             have q66 : 0 < a0.size := (by have : (0 : Int) < (a0.size : Int) := of_decide_eq_true (by first | (with_reducible assumption) | assumption); omega)
             have hx66 := bt_lit a0 0 0 rfl
             clear p66
             have qi66 : (0 < (a0.size : Int)) = True := eq_true (of_decide_eq_true (by first | (with_reducible assumption) | assumption))
             replace q66 := eq_true q66
             go_enter Tryd.func36, Tryd.ntmps36
             go_wp2_with (first | ((with_reducible refine gate_callee (f := 37) rfl ?_); refine goesL_ (some 116) rfl rfl Tryd.func37 (by kernel_rfl) rfl #[.string (⟨#[117, 110, 101, 120, 112, 101, 99, 116, 101, 100, 32, 118, 97, 108, 117, 101, 32, 102, 111, 117, 110, 100]⟩ : ByteArray)] rfl (by (try simp only [List.map_toArray, List.map_cons, List.map_nil]); first | done | rfl | (simp only [List.length_drop, List.length_take]; rfl)) ?_; (with_reducible refine (errors_New.calls (⟨#[117, 110, 101, 120, 112, 101, 99, 116, 101, 100, 32, 118, 97, 108, 117, 101, 32, 102, 111, 117, 110, 100]⟩ : ByteArray) t173 _ A77.out).mono ?_); rintro e w78 ⟨evt173, rfl, hb⟩; refine ⟨_, rfl, ?_⟩; have n0_ := Aside0.mk (below_step (by repeat (first | (with_reducible first | exact HB.out | apply below_alloc | apply pw_below_drewN | apply below_drew1) | exact HB.out)) hb); clear HB; have HB := n0_; clear n0_; (try clear hb); (try clear hb2); (try clear hk); (try clear hi); (try simp only [errX_none, errX_some])))
             go_ret2
             first | exact ⟨evt173, by first | rfl | (simp [errX_none, errX_some] <;> rfl) | (simp only [← hjs73]; first | rfl | (simp [errX_none, errX_some] <;> rfl)) | (simp [*, errX_none, errX_some] <;> rfl), by repeat (first | (with_reducible first | exact HB.out | apply below_alloc | apply pw_below_drewN | apply below_drew1) | exact HB.out)⟩ | exact ⟨⟨(evt173).1, (evt173).2, by first | rfl | (simp [errX_none, errX_some] <;> rfl) | (simp only [← hjs73]; first | rfl | (simp [errX_none, errX_some] <;> rfl)) | (simp [*, errX_none, errX_some] <;> rfl)⟩, by repeat (first | (with_reducible first | exact HB.out | apply below_alloc | apply pw_below_drewN | apply below_drew1) | exact HB.out)⟩
           ·
            rw [if_neg c72] at H
            exact absurd H (by simp)
          ·
           rw [if_neg c71] at H
           exact absurd H (by simp)
        ·
         rw [if_neg c67] at H
         have c67b0 : ((bt a0 0) == 110) = false := beq_eq_false_iff_ne.mpr c67
         have c67b1 : ((bt a0 0) != 110) = true := bne_iff_ne.mpr c67
         replace H := Option.bind_eq_some_iff.mp H
         obtain ⟨⟨t174, t175⟩, A790, H⟩ := H
         replace H : (if t175.isNone = true then (some (t174, none)) else ((errors_New.f (⟨#[99, 97, 110, 110, 111, 116, 32, 112, 97, 114, 115, 101, 32, 110, 117, 109, 98, 101, 114]⟩ : ByteArray)).bind fun t177 => (some (t174, t177)))) = some (r1, r2) := H
         have A79 := Aside0.mk A790
         clear A790
         rcases t175 with _ | q176
         ·
          have H1 : (some (t174, none)) = some (r1, r2) := by rw [if_pos (show (none : Option Int).isNone = true by rfl)] at H; exact H
          clear H
          have H := H1
          clear H1
          try simp only [errX_none, errX_some]
          simp only [Option.some.injEq, Prod.mk.injEq] at H
          obtain ⟨rfl, rfl⟩ := H
          have p6 : 0 ≤ (0 : Int) := (by omega)
          have q6 : 0 < a0.size := (by have : (0 : Int) < (a0.size : Int) := of_decide_eq_true (by first | (with_reducible assumption) | assumption); omega)
          have hx6 := bt_lit a0 0 0 rfl
          clear p6
          have qi6 : (0 < (a0.size : Int)) = True := eq_true (of_decide_eq_true (by first | (with_reducible assumption) | assumption))
          replace q6 := eq_true q6
          have p15 : 0 ≤ (0 : Int) := (by omega)
          have q15 : 0 < a0.size := (by have : (0 : Int) < (a0.size : Int) := of_decide_eq_true (by first | (with_reducible assumption) | assumption); omega)
          have hx15 := bt_lit a0 0 0 rfl
          clear p15
          have qi15 : (0 < (a0.size : Int)) = True := eq_true (of_decide_eq_true (by first | (with_reducible assumption) | assumption))
          replace q15 := eq_true q15
          have p24 : 0 ≤ (0 : Int) := (by omega)
          have q24 : 0 < a0.size := (by have : (0 : Int) < (a0.size : Int) := of_decide_eq_true (by first | (with_reducible assumption) | assumption); omega)
          have hx24 := bt_lit a0 0 0 rfl
          clear p24
          have qi24 : (0 < (a0.size : Int)) = True := eq_true (of_decide_eq_true (by first | (with_reducible assumption) | assumption))
          replace q24 := eq_true q24
          have p40 : 0 ≤ (0 : Int) := (by omega)
          have q40 : 0 < a0.size := (by have : (0 : Int) < (a0.size : Int) := of_decide_eq_true (by first | (with_reducible assumption) | assumption); omega)
          have hx40 := bt_lit a0 0 0 rfl
          clear p40
          have qi40 : (0 < (a0.size : Int)) = True := eq_true (of_decide_eq_true (by first | (with_reducible assumption) | assumption))
          replace q40 := eq_true q40
          have p53 : 0 ≤ (0 : Int) := (by omega)
          have q53 : 0 < a0.size := (by have : (0 : Int) < (a0.size : Int) := of_decide_eq_true (by first | (with_reducible assumption) | assumption); omega)
          have hx53 := bt_lit a0 0 0 rfl
          clear p53
          have qi53 : (0 < (a0.size : Int)) = True := eq_true (of_decide_eq_true (by first | (with_reducible assumption) | assumption))
          replace q53 := eq_true q53
          have p66 : 0 ≤ (0 : Int) := (by omega)
          have q66 : 0 < a0.size := (by have : (0 : Int) < (a0.size : Int) := of_decide_eq_true (by first | (with_reducible assumption) | assumption); omega)
          have hx66 := bt_lit a0 0 0 rfl
          clear p66
          have qi66 : (0 < (a0.size : Int)) = True := eq_true (of_decide_eq_true (by first | (with_reducible assumption) | assumption))
          replace q66 := eq_true q66
          go_enter Tryd.func36, Tryd.ntmps36
          go_wp2_with (first | ((with_reducible refine gate_callee (f := 57) rfl ?_); refine goesL_ (some 121) rfl rfl Tryd.func57 (by kernel_rfl) rfl #[.string a0] rfl (by (try simp only [List.map_toArray, List.map_cons, List.map_nil]); first | done | rfl | (simp only [List.length_drop, List.length_take]; rfl)) ?_; (with_reducible refine (fastjson_validateNumber.calls k a0 t174 none _ A79.out).mono ?_); rintro e w80 ⟨evz_, rfl, hb⟩; refine ⟨_, rfl, ?_⟩; have n0_ := Aside0.mk (below_step (by repeat (first | (with_reducible first | exact HB.out | apply below_alloc | apply pw_below_drewN | apply below_drew1) | exact HB.out)) hb); clear HB; have HB := n0_; clear n0_; (try clear hb); (try clear hb2); (try clear hk); (try clear hi); (try simp only [errX_none, errX_some])))
          go_ret2
          first | exact ⟨(0, Value.nilIface), by first | rfl | (simp [errX_none, errX_some] <;> rfl) | (simp [*, errX_none, errX_some] <;> rfl), by repeat (first | (with_reducible first | exact HB.out | apply below_alloc | apply pw_below_drewN | apply below_drew1) | exact HB.out)⟩ | exact ⟨⟨((0, Value.nilIface)).1, ((0, Value.nilIface)).2, by first | rfl | (simp [errX_none, errX_some] <;> rfl) | (simp [*, errX_none, errX_some] <;> rfl)⟩, by repeat (first | (with_reducible first | exact HB.out | apply below_alloc | apply pw_below_drewN | apply below_drew1) | exact HB.out)⟩
         ·
          have H1 : ((errors_New.f (⟨#[99, 97, 110, 110, 111, 116, 32, 112, 97, 114, 115, 101, 32, 110, 117, 109, 98, 101, 114]⟩ : ByteArray)).bind fun t177 => (some (t174, t177))) = some (r1, r2) := by rw [if_neg (show ¬ (some q176).isNone = true by simp)] at H; exact H
          clear H
          have H := H1
          clear H1
          try simp only [errX_none, errX_some]
          replace H := Option.bind_eq_some_iff.mp H
          obtain ⟨t177, A810, H⟩ := H
          replace H : (some (t174, t177)) = some (r1, r2) := H
          have A81 := Aside0.mk A810
          clear A810
          simp only [Option.some.injEq, Prod.mk.injEq] at H
          obtain ⟨rfl, rfl⟩ := H
          have p6 : 0 ≤ (0 : Int) := (by omega)
          have q6 : 0 < a0.size := (by have : (0 : Int) < (a0.size : Int) := of_decide_eq_true (by first | (with_reducible assumption) | assumption); omega)
          have hx6 := bt_lit a0 0 0 rfl
          clear p6
          have qi6 : (0 < (a0.size : Int)) = True := eq_true (of_decide_eq_true (by first | (with_reducible assumption) | assumption))
          replace q6 := eq_true q6
          have p15 : 0 ≤ (0 : Int) := (by omega)
          have q15 : 0 < a0.size := (by have : (0 : Int) < (a0.size : Int) := of_decide_eq_true (by first | (with_reducible assumption) | assumption); omega)
          have hx15 := bt_lit a0 0 0 rfl
          clear p15
          have qi15 : (0 < (a0.size : Int)) = True := eq_true (of_decide_eq_true (by first | (with_reducible assumption) | assumption))
          replace q15 := eq_true q15
          have p24 : 0 ≤ (0 : Int) := (by omega)
          have q24 : 0 < a0.size := (by have : (0 : Int) < (a0.size : Int) := of_decide_eq_true (by first | (with_reducible assumption) | assumption); omega)
          have hx24 := bt_lit a0 0 0 rfl
          clear p24
          have qi24 : (0 < (a0.size : Int)) = True := eq_true (of_decide_eq_true (by first | (with_reducible assumption) | assumption))
          replace q24 := eq_true q24
          have p40 : 0 ≤ (0 : Int) := (by omega)
          have q40 : 0 < a0.size := (by have : (0 : Int) < (a0.size : Int) := of_decide_eq_true (by first | (with_reducible assumption) | assumption); omega)
          have hx40 := bt_lit a0 0 0 rfl
          clear p40
          have qi40 : (0 < (a0.size : Int)) = True := eq_true (of_decide_eq_true (by first | (with_reducible assumption) | assumption))
          replace q40 := eq_true q40
          have p53 : 0 ≤ (0 : Int) := (by omega)
          have q53 : 0 < a0.size := (by have : (0 : Int) < (a0.size : Int) := of_decide_eq_true (by first | (with_reducible assumption) | assumption); omega)
          have hx53 := bt_lit a0 0 0 rfl
          clear p53
          have qi53 : (0 < (a0.size : Int)) = True := eq_true (of_decide_eq_true (by first | (with_reducible assumption) | assumption))
          replace q53 := eq_true q53
          have p66 : 0 ≤ (0 : Int) := (by omega)
          have q66 : 0 < a0.size := (by have : (0 : Int) < (a0.size : Int) := of_decide_eq_true (by first | (with_reducible assumption) | assumption); omega)
          have hx66 := bt_lit a0 0 0 rfl
          clear p66
          have qi66 : (0 < (a0.size : Int)) = True := eq_true (of_decide_eq_true (by first | (with_reducible assumption) | assumption))
          replace q66 := eq_true q66
          go_enter Tryd.func36, Tryd.ntmps36
          go_wp2_with (first | ((with_reducible refine gate_callee (f := 57) rfl ?_); refine goesL_ (some 121) rfl rfl Tryd.func57 (by kernel_rfl) rfl #[.string a0] rfl (by (try simp only [List.map_toArray, List.map_cons, List.map_nil]); first | done | rfl | (simp only [List.length_drop, List.length_take]; rfl)) ?_; (with_reducible refine (fastjson_validateNumber.calls k a0 t174 (some q176) _ A79.out).mono ?_); rintro e w82 ⟨evt175, rfl, hb⟩; refine ⟨_, rfl, ?_⟩; have n0_ := Aside0.mk (below_step (by repeat (first | (with_reducible first | exact HB.out | apply below_alloc | apply pw_below_drewN | apply below_drew1) | exact HB.out)) hb); clear HB; have HB := n0_; clear n0_; (try clear hb); (try clear hb2); (try clear hk); (try clear hi); (try simp only [errX_none, errX_some])) | ((with_reducible refine gate_callee (f := 37) rfl ?_); refine goesL_ (some 127) rfl rfl Tryd.func37 (by kernel_rfl) rfl #[.string (⟨#[99, 97, 110, 110, 111, 116, 32, 112, 97, 114, 115, 101, 32, 110, 117, 109, 98, 101, 114]⟩ : ByteArray)] rfl (by (try simp only [List.map_toArray, List.map_cons, List.map_nil]); first | done | rfl | (simp only [List.length_drop, List.length_take]; rfl)) ?_; (with_reducible refine (errors_New.calls (⟨#[99, 97, 110, 110, 111, 116, 32, 112, 97, 114, 115, 101, 32, 110, 117, 109, 98, 101, 114]⟩ : ByteArray) t177 _ A81.out).mono ?_); rintro e w83 ⟨evt177, rfl, hb⟩; refine ⟨_, rfl, ?_⟩; have n0_ := Aside0.mk (below_step (by repeat (first | (with_reducible first | exact HB.out | apply below_alloc | apply pw_below_drewN | apply below_drew1) | exact HB.out)) hb); clear HB; have HB := n0_; clear n0_; (try clear hb); (try clear hb2); (try clear hk); (try clear hi); (try simp only [errX_none, errX_some])))
          go_ret2
          first | exact ⟨evt177, by first | rfl | (simp [errX_none, errX_some] <;> rfl) | (simp [*, errX_none, errX_some] <;> rfl), by repeat (first | (with_reducible first | exact HB.out | apply below_alloc | apply pw_below_drewN | apply below_drew1) | exact HB.out)⟩ | exact ⟨⟨(evt177).1, (evt177).2, by first | rfl | (simp [errX_none, errX_some] <;> rfl) | (simp [*, errX_none, errX_some] <;> rfl)⟩, by repeat (first | (with_reducible first | exact HB.out | apply below_alloc | apply pw_below_drewN | apply below_drew1) | exact HB.out)⟩
  ·
   rw [if_neg c5] at H
   exact absurd H (by simp)

end Go.Proofs.YtdhiihegfdmokaaDoor.PFnFjValidBytes
