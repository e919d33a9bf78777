/- what the Go functions that the law FnFjCheckObject reaches compute, each as a plain function, with the proof that the Go code computes just that; no condition beside those that each theorem states. -/
import Derived.Test.YtdhiihegfdmokaaDoorPFnFjCheckObjectx0
import Derived.Test.YtdhiihegfdmokaaDoorPFnFjCheckObjectx1
import Derived.Test.YtdhiihegfdmokaaDoorPFnFjCheckObjectx6
import Derived.Test.YtdhiihegfdmokaaDoorPFnFjCheckObjectx10
import Derived.Test.YtdhiihegfdmokaaDoorPFnFjCheckObjectx11
import Derived.Test.YtdhiihegfdmokaaDoorPFnFjCheckObjectx12
import Derived.Test.YtdhiihegfdmokaaDoorGXFnFjCheckObject
import Derived.Test.YtdhiihegfdmokaaDoorHEFnFjCheckObject
namespace Go.Proofs.YtdhiihegfdmokaaDoor.PFnFjCheckObject
open Go.RowKit Go.Proofs.YtdhiihegfdmokaaDoorW.PrintWords Go.Proofs.YtdhiihegfdmokaaDoorW.PrintLast Go.Proofs.YtdhiihegfdmokaaDoorW.PrintMore
set_option linter.unusedVariables false
set_option linter.unusedSimpArgs false
set_option maxHeartbeats 8000000 in
set_option maxRecDepth 100000 in
theorem fastjson_validateArray.calls_ (k : Nat) (ih_fastjson_validateObject : ∀ m_, m_ < k → fastjson_validateObject.CallsP m_) (ih_fastjson_validateValue : ∀ m_, m_ < k → fastjson_validateValue.CallsP m_) (ih_fastjson_validateArray : ∀ m_, m_ < k → fastjson_validateArray.CallsP m_) : fastjson_validateArray.CallsP k := by
 intro a0 r1 r2 w h hG
 cases k with
  | zero => exact absurd h (by simp [fastjson_validateArray.f])
  | succ k =>
 simp only [fastjson_validateArray.f] at h
 have hu43 := Tryd.underlying43
 have HB := Aside0.mk (Below.refl w.heap.size w)
 have HG := Aside0.mk hG
 clear hG
 have H : ((fastjson_skipWS.f k a0).bind fun t368 => (if (t368.size : Int) = 0 then ((errors_New.f (⟨#[109, 105, 115, 115, 105, 110, 103, 32, 39, 93]⟩ : ByteArray)).bind fun t369 => (some (t368, t369))) else (if 0 < (t368.size : Int) then (if (bt t368 0) = 93 then (if 1 ≤ (t368.size : Int) then (some (t368.extract 1 t368.size, none)) else (none)) else (fastjson_validateArray.l0 k t368)) else (none)))) = some (r1, r2) := h
 clear h
 replace H := Option.bind_eq_some_iff.mp H
 obtain ⟨t368, A20, H⟩ := H
 replace H : (if (t368.size : Int) = 0 then ((errors_New.f (⟨#[109, 105, 115, 115, 105, 110, 103, 32, 39, 93]⟩ : ByteArray)).bind fun t369 => (some (t368, t369))) else (if 0 < (t368.size : Int) then (if (bt t368 0) = 93 then (if 1 ≤ (t368.size : Int) then (some (t368.extract 1 t368.size, none)) else (none)) else (fastjson_validateArray.l0 k t368)) else (none))) = some (r1, r2) := H
 have A2 := Aside0.mk A20
 clear A20
 by_cases c3 : (t368.size : Int) = 0
 ·
  rw [if_pos c3] at H
  have c3b0 : ((t368.size : Int) == 0) = true := beq_iff_eq.mpr c3
  have c3b1 : ((t368.size : Int) != 0) = false := bne_eq_false_iff_eq.mpr c3
  clear c3
  replace H := Option.bind_eq_some_iff.mp H
  obtain ⟨t369, A40, H⟩ := H
  replace H : (some (t368, t369)) = some (r1, r2) := H
  have A4 := Aside0.mk A40
  clear A40
  simp only [Option.some.injEq, Prod.mk.injEq] at H
  obtain ⟨rfl, rfl⟩ := H
  go_enter Tryd.func55, Tryd.ntmps55
  go_wp2_with (first | ((with_reducible refine gate_callee (f := 35) rfl ?_); refine goesL_ (some 6) rfl rfl Tryd.func35 (by kernel_rfl) rfl #[.string a0] rfl (by (try simp only [List.map_toArray, List.map_cons, List.map_nil]); first | done | rfl | (simp only [List.length_drop, List.length_take]; rfl)) ?_; (with_reducible refine (fastjson_skipWS.calls k a0 t368 _ A2.out).mono ?_); rintro e w' ⟨rfl, ⟨nd, rfl⟩⟩; refine ⟨_, rfl, ?_⟩) | ((with_reducible refine gate_callee (f := 37) rfl ?_); refine goesL_ (some 11) rfl rfl Tryd.func37 (by kernel_rfl) rfl #[.string (⟨#[109, 105, 115, 115, 105, 110, 103, 32, 39, 93]⟩ : ByteArray)] rfl (by (try simp only [List.map_toArray, List.map_cons, List.map_nil]); first | done | rfl | (simp only [List.length_drop, List.length_take]; rfl)) ?_; (with_reducible refine (errors_New.calls (⟨#[109, 105, 115, 115, 105, 110, 103, 32, 39, 93]⟩ : ByteArray) t369 _ A4.out).mono ?_); rintro e w5 ⟨evt369, rfl, hb⟩; refine ⟨_, rfl, ?_⟩; have n0_ := Aside0.mk (below_step (by repeat (first | (with_reducible first | exact HB.out | apply below_alloc | apply pw_below_drewN | apply below_drew1) | exact HB.out)) hb); clear HB; have HB := n0_; clear n0_; (try clear hb); (try clear hb2); (try clear hk); (try clear hi); (try simp only [errX_none, errX_some])))
  go_ret2
  first | exact ⟨evt369, by first | rfl | (simp [errX_none, errX_some] <;> rfl) | (simp [*, errX_none, errX_some] <;> rfl), by repeat (first | (with_reducible first | exact HB.out | apply below_alloc | apply pw_below_drewN | apply below_drew1) | exact HB.out)⟩ | exact ⟨⟨(evt369).1, (evt369).2, by first | rfl | (simp [errX_none, errX_some] <;> rfl) | (simp [*, errX_none, errX_some] <;> rfl)⟩, by repeat (first | (with_reducible first | exact HB.out | apply below_alloc | apply pw_below_drewN | apply below_drew1) | exact HB.out)⟩
 rw [if_neg c3] at H
 have c3b0 : ((t368.size : Int) == 0) = false := beq_eq_false_iff_ne.mpr c3
 have c3b1 : ((t368.size : Int) != 0) = true := bne_iff_ne.mpr c3
 by_cases c6 : 0 < (t368.size : Int)
 ·
  rw [if_pos c6] at H
  have c6b0 : decide (0 < (t368.size : Int)) = true := decide_eq_true c6
  have c6b1 : decide (0 < t368.size) = true := decide_eq_true (by omega)
  clear c6
  by_cases c8 : (bt t368 0) = 93
  ·
   rw [if_pos c8] at H
   have c8b0 : ((bt t368 0) == 93) = true := beq_iff_eq.mpr c8
   have c8b1 : ((bt t368 0) != 93) = false := bne_eq_false_iff_eq.mpr c8
   clear c8
   by_cases c9 : 1 ≤ (t368.size : Int)
   ·
    rw [if_pos c9] at H
    have c9b0 := eq_true c9
    have c9b1 : decide (1 ≤ (t368.size : Int)) = true := decide_eq_true c9
    clear c9
    simp only [Option.some.injEq, Prod.mk.injEq] at H
    obtain ⟨rfl, rfl⟩ := H
    go_enter Tryd.func55, Tryd.ntmps55
    go_wp2_with (first | ((with_reducible refine gate_callee (f := 35) rfl ?_); refine goesL_ (some 6) rfl rfl Tryd.func35 (by kernel_rfl) rfl #[.string a0] rfl (by (try simp only [List.map_toArray, List.map_cons, List.map_nil]); first | done | rfl | (simp only [List.length_drop, List.length_take]; rfl)) ?_; (with_reducible refine (fastjson_skipWS.calls k a0 t368 _ A2.out).mono ?_); rintro e w' ⟨rfl, ⟨nd, rfl⟩⟩; refine ⟨_, rfl, ?_⟩; have p7 : 0 ≤ (0 : Int) := (by omega); have q7 : 0 < t368.size := (by have : (0 : Int) < (t368.size : Int) := of_decide_eq_true (by first | (with_reducible assumption) | assumption); omega); have hx7 := bt_lit t368 0 0 rfl; clear p7; have qi7 : (0 < (t368.size : Int)) = True := eq_true (of_decide_eq_true (by first | (with_reducible assumption) | assumption)); replace q7 := eq_true q7))
    go_ret2
    first | exact ⟨(0, Value.nilIface), by first | rfl | (simp [errX_none, errX_some] <;> rfl) | (simp [*, errX_none, errX_some] <;> rfl), by repeat (first | (with_reducible first | exact HB.out | apply below_alloc | apply pw_below_drewN | apply below_drew1) | exact HB.out)⟩ | exact ⟨⟨((0, Value.nilIface)).1, ((0, Value.nilIface)).2, by first | rfl | (simp [errX_none, errX_some] <;> rfl) | (simp [*, errX_none, errX_some] <;> rfl)⟩, by repeat (first | (with_reducible first | exact HB.out | apply below_alloc | apply pw_below_drewN | apply below_drew1) | exact HB.out)⟩
   rw [if_neg c9] at H
   exact absurd H (by simp)
  rw [if_neg c8] at H
  have c8b0 : ((bt t368 0) == 93) = false := beq_eq_false_iff_ne.mpr c8
  have c8b1 : ((bt t368 0) != 93) = true := bne_iff_ne.mpr c8
  have H' := Aside0.mk H
  clear H
  go_enter Tryd.func55, Tryd.ntmps55
  go_wp2_with (first | ((with_reducible refine gate_callee (f := 35) rfl ?_); refine goesL_ (some 6) rfl rfl Tryd.func35 (by kernel_rfl) rfl #[.string a0] rfl (by (try simp only [List.map_toArray, List.map_cons, List.map_nil]); first | done | rfl | (simp only [List.length_drop, List.length_take]; rfl)) ?_; (with_reducible refine (fastjson_skipWS.calls k a0 t368 _ A2.out).mono ?_); rintro e w' ⟨rfl, ⟨nd, rfl⟩⟩; refine ⟨_, rfl, ?_⟩; have p7 : 0 ≤ (0 : Int) := (by omega); have q7 : 0 < t368.size := (by have : (0 : Int) < (t368.size : Int) := of_decide_eq_true (by first | (with_reducible assumption) | assumption); omega); have hx7 := bt_lit t368 0 0 rfl; clear p7; have qi7 : (0 < (t368.size : Int)) = True := eq_true (of_decide_eq_true (by first | (with_reducible assumption) | assumption)); replace q7 := eq_true q7))
  try simp only [Act.put, List.setIfInBounds_toArray, List.set_cons_succ, List.set_cons_zero]
  go_loopg [0] k (fun kq v0 w' => ∃ (x0_1 : ByteArray), v0 = .string x0_1 ∧ Aside0 (fastjson_validateArray.l0 kq x0_1 = some (r1, r2)) ∧ Aside0 (kq ≤ k) ∧ Aside0 (Below w.heap.size w w'))
  case atStart => exact ⟨(t368), (by first | rfl | (simp; done) | (simp [nil_ne_, nil_eq_]; done) | (simp [*]; done)), H', ⟨Nat.le_refl _⟩, ⟨by repeat (first | (with_reducible first | exact HB.out | apply below_alloc | apply pw_below_drewN | apply below_drew1) | exact HB.out)⟩⟩
  case round =>
   clear H'
   try clear p2
   try clear c3
   try clear c3b0
   try clear c3b1
   try clear c5
   try clear c6
   try clear c6b0
   try clear c6b1
   try clear p7
   try clear q7
   try clear hx7
   try clear qi7
   try clear c8
   try clear c8b0
   try clear c8b1
   try clear c9
   try clear c9b0
   try clear c9b1
   try clear p7
   try clear q7
   obtain ⟨x0_1, rfl, HA, HK1, HB⟩ := hrel
   rcases gk with _ | k1
   · exact absurd HA.out (by simp [fastjson_validateArray.l0])
   have H := HA.out
   clear HA
   simp only [fastjson_validateArray.l0] at H
   replace H := Option.bind_eq_some_iff.mp H
   obtain ⟨t370, A100, H⟩ := H
   replace H : ((fastjson_validateValue.f k1 t370).bind fun bt371 => (if bt371.2.isNone = true then ((fastjson_skipWS.f k1 bt371.1).bind fun t374 => (if (t374.size : Int) = 0 then ((errors_New.f (⟨#[117, 110, 101, 120, 112, 101, 99, 116, 101, 100, 32, 101, 110, 100, 32, 111, 102, 32, 97, 114, 114, 97, 121]⟩ : ByteArray)).bind fun t375 => (some (t374, t375))) else (if 0 < (t374.size : Int) then (if (bt t374 0) = 44 then (if 1 ≤ (t374.size : Int) then (fastjson_validateArray.l0 k1 (t374.extract 1 t374.size)) else (none)) else (if (bt t374 0) = 93 then (if 1 ≤ (t374.size : Int) then (some (t374.extract 1 t374.size, none)) else (none)) else ((errors_New.f (⟨#[109, 105, 115, 115, 105, 110, 103, 32, 39, 44, 39, 32, 97, 102, 116, 101, 114, 32, 97, 114, 114, 97, 121, 32, 118, 97, 108, 117, 101]⟩ : ByteArray)).bind fun t376 => (some (t374, t376))))) else (none)))) else ((errors_New.f (⟨#[99, 97, 110, 110, 111, 116, 32, 112, 97, 114, 115, 101, 32, 97, 114, 114, 97, 121, 32, 118, 97, 108, 117, 101]⟩ : ByteArray)).bind fun t377 => (some (bt371.1, t377))))) = some (r1, r2) := H
   have A10 := Aside0.mk A100
   clear A100
   replace H := Option.bind_eq_some_iff.mp H
   obtain ⟨⟨t371, t372⟩, A110, H⟩ := H
   replace H : (if t372.isNone = true then ((fastjson_skipWS.f k1 t371).bind fun t374 => (if (t374.size : Int) = 0 then ((errors_New.f (⟨#[117, 110, 101, 120, 112, 101, 99, 116, 101, 100, 32, 101, 110, 100, 32, 111, 102, 32, 97, 114, 114, 97, 121]⟩ : ByteArray)).bind fun t375 => (some (t374, t375))) else (if 0 < (t374.size : Int) then (if (bt t374 0) = 44 then (if 1 ≤ (t374.size : Int) then (fastjson_validateArray.l0 k1 (t374.extract 1 t374.size)) else (none)) else (if (bt t374 0) = 93 then (if 1 ≤ (t374.size : Int) then (some (t374.extract 1 t374.size, none)) else (none)) else ((errors_New.f (⟨#[109, 105, 115, 115, 105, 110, 103, 32, 39, 44, 39, 32, 97, 102, 116, 101, 114, 32, 97, 114, 114, 97, 121, 32, 118, 97, 108, 117, 101]⟩ : ByteArray)).bind fun t376 => (some (t374, t376))))) else (none)))) else ((errors_New.f (⟨#[99, 97, 110, 110, 111, 116, 32, 112, 97, 114, 115, 101, 32, 97, 114, 114, 97, 121, 32, 118, 97, 108, 117, 101]⟩ : ByteArray)).bind fun t377 => (some (t371, t377)))) = some (r1, r2) := H
   have A11 := Aside0.mk A110
   clear A110
   rcases t372 with _ | q373
   ·
    have H1 : ((fastjson_skipWS.f k1 t371).bind fun t374 => (if (t374.size : Int) = 0 then ((errors_New.f (⟨#[117, 110, 101, 120, 112, 101, 99, 116, 101, 100, 32, 101, 110, 100, 32, 111, 102, 32, 97, 114, 114, 97, 121]⟩ : ByteArray)).bind fun t375 => (some (t374, t375))) else (if 0 < (t374.size : Int) then (if (bt t374 0) = 44 then (if 1 ≤ (t374.size : Int) then (fastjson_validateArray.l0 k1 (t374.extract 1 t374.size)) else (none)) else (if (bt t374 0) = 93 then (if 1 ≤ (t374.size : Int) then (some (t374.extract 1 t374.size, none)) else (none)) else ((errors_New.f (⟨#[109, 105, 115, 115, 105, 110, 103, 32, 39, 44, 39, 32, 97, 102, 116, 101, 114, 32, 97, 114, 114, 97, 121, 32, 118, 97, 108, 117, 101]⟩ : ByteArray)).bind fun t376 => (some (t374, t376))))) else (none)))) = some (r1, r2) := by rw [if_pos (show (none : Option Int).isNone = true by rfl)] at H; exact H
    clear H
    have H := H1
    clear H1
    try simp only [errX_none, errX_some]
    replace H := Option.bind_eq_some_iff.mp H
    obtain ⟨t374, A120, H⟩ := H
    replace H : (if (t374.size : Int) = 0 then ((errors_New.f (⟨#[117, 110, 101, 120, 112, 101, 99, 116, 101, 100, 32, 101, 110, 100, 32, 111, 102, 32, 97, 114, 114, 97, 121]⟩ : ByteArray)).bind fun t375 => (some (t374, t375))) else (if 0 < (t374.size : Int) then (if (bt t374 0) = 44 then (if 1 ≤ (t374.size : Int) then (fastjson_validateArray.l0 k1 (t374.extract 1 t374.size)) else (none)) else (if (bt t374 0) = 93 then (if 1 ≤ (t374.size : Int) then (some (t374.extract 1 t374.size, none)) else (none)) else ((errors_New.f (⟨#[109, 105, 115, 115, 105, 110, 103, 32, 39, 44, 39, 32, 97, 102, 116, 101, 114, 32, 97, 114, 114, 97, 121, 32, 118, 97, 108, 117, 101]⟩ : ByteArray)).bind fun t376 => (some (t374, t376))))) else (none))) = some (r1, r2) := H
    have A12 := Aside0.mk A120
    clear A120
    by_cases c13 : (t374.size : Int) = 0
    ·
     rw [if_pos c13] at H
     have c13b0 : ((t374.size : Int) == 0) = true := beq_iff_eq.mpr c13
     have c13b1 : ((t374.size : Int) != 0) = false := bne_eq_false_iff_eq.mpr c13
     clear c13
     replace H := Option.bind_eq_some_iff.mp H
     obtain ⟨t375, A140, H⟩ := H
     replace H : (some (t374, t375)) = some (r1, r2) := H
     have A14 := Aside0.mk A140
     clear A140
     simp only [Option.some.injEq, Prod.mk.injEq] at H
     obtain ⟨rfl, rfl⟩ := H
     go_wp2_with (first | ((with_reducible refine gate_callee (f := 35) rfl ?_); refine goesL_ (some 18) rfl rfl Tryd.func35 (by kernel_rfl) rfl #[.string x0_1] rfl (by (try simp only [List.map_toArray, List.map_cons, List.map_nil]); first | done | rfl | (simp only [List.length_drop, List.length_take]; rfl)) ?_; (with_reducible refine (fastjson_skipWS.calls k1 x0_1 t370 _ A10.out).mono ?_); rintro e w' ⟨rfl, ⟨nd, rfl⟩⟩; refine ⟨_, rfl, ?_⟩) | ((with_reducible refine gate_callee (f := 36) rfl ?_); refine goesL_ (some 21) rfl rfl Tryd.func36 (by kernel_rfl) rfl #[.string t370] rfl (by (try simp only [List.map_toArray, List.map_cons, List.map_nil]); first | done | rfl | (simp only [List.length_drop, List.length_take]; rfl)) ?_; (with_reducible refine (ih_fastjson_validateValue k1 (by have := HK1.out; omega) t370 t371 none _ A11.out (HG.out.below (by repeat (first | (with_reducible first | exact HB.out | apply below_alloc | apply pw_below_drewN | apply below_drew1) | exact HB.out)))).mono ?_); rintro e w15 ⟨evz_, rfl, hb⟩; refine ⟨_, rfl, ?_⟩; have n0_ := Aside0.mk (below_step (by repeat (first | (with_reducible first | exact HB.out | apply below_alloc | apply pw_below_drewN | apply below_drew1) | exact HB.out)) hb); clear HB; have HB := n0_; clear n0_; (try clear hb); (try clear hb2); (try clear hk); (try clear hi); (try simp only [errX_none, errX_some])) | ((with_reducible refine gate_callee (f := 35) rfl ?_); refine goesL_ (some 29) rfl rfl Tryd.func35 (by kernel_rfl) rfl #[.string t371] rfl (by (try simp only [List.map_toArray, List.map_cons, List.map_nil]); first | done | rfl | (simp only [List.length_drop, List.length_take]; rfl)) ?_; (with_reducible refine (fastjson_skipWS.calls k1 t371 t374 _ A12.out).mono ?_); rintro e w' ⟨rfl, ⟨nd, rfl⟩⟩; refine ⟨_, rfl, ?_⟩) | ((with_reducible refine gate_callee (f := 37) rfl ?_); refine goesL_ (some 34) rfl rfl Tryd.func37 (by kernel_rfl) rfl #[.string (⟨#[117, 110, 101, 120, 112, 101, 99, 116, 101, 100, 32, 101, 110, 100, 32, 111, 102, 32, 97, 114, 114, 97, 121]⟩ : ByteArray)] rfl (by (try simp only [List.map_toArray, List.map_cons, List.map_nil]); first | done | rfl | (simp only [List.length_drop, List.length_take]; rfl)) ?_; (with_reducible refine (errors_New.calls (⟨#[117, 110, 101, 120, 112, 101, 99, 116, 101, 100, 32, 101, 110, 100, 32, 111, 102, 32, 97, 114, 114, 97, 121]⟩ : ByteArray) t375 _ A14.out).mono ?_); rintro e w16 ⟨evt375, rfl, hb⟩; refine ⟨_, rfl, ?_⟩; have n0_ := Aside0.mk (below_step (by repeat (first | (with_reducible first | exact HB.out | apply below_alloc | apply pw_below_drewN | apply below_drew1) | exact HB.out)) hb); clear HB; have HB := n0_; clear n0_; (try clear hb); (try clear hb2); (try clear hk); (try clear hi); (try simp only [errX_none, errX_some])))
     go_ret2
     first | exact ⟨evt375, by first | rfl | (simp [errX_none, errX_some] <;> rfl) | (simp [*, errX_none, errX_some] <;> rfl), by repeat (first | (with_reducible first | exact HB.out | apply below_alloc | apply pw_below_drewN | apply below_drew1) | exact HB.out)⟩ | exact ⟨⟨(evt375).1, (evt375).2, by first | rfl | (simp [errX_none, errX_some] <;> rfl) | (simp [*, errX_none, errX_some] <;> rfl)⟩, by repeat (first | (with_reducible first | exact HB.out | apply below_alloc | apply pw_below_drewN | apply below_drew1) | exact HB.out)⟩
    rw [if_neg c13] at H
    have c13b0 : ((t374.size : Int) == 0) = false := beq_eq_false_iff_ne.mpr c13
    have c13b1 : ((t374.size : Int) != 0) = true := bne_iff_ne.mpr c13
    by_cases c17 : 0 < (t374.size : Int)
    ·
     rw [if_pos c17] at H
     have c17b0 : decide (0 < (t374.size : Int)) = true := decide_eq_true c17
     have c17b1 : decide (0 < t374.size) = true := decide_eq_true (by omega)
     clear c17
     by_cases c19 : (bt t374 0) = 44
     ·
      rw [if_pos c19] at H
      have c19b0 : ((bt t374 0) == 44) = true := beq_iff_eq.mpr c19
      have c19b1 : ((bt t374 0) != 44) = false := bne_eq_false_iff_eq.mpr c19
      clear c19
      by_cases c20 : 1 ≤ (t374.size : Int)
      ·
       rw [if_pos c20] at H
       have c20b0 := eq_true c20
       have c20b1 : decide (1 ≤ (t374.size : Int)) = true := decide_eq_true c20
       clear c20
       have H' := Aside0.mk H
       clear H
       go_wp2_with (first | ((with_reducible refine gate_callee (f := 35) rfl ?_); refine goesL_ (some 18) rfl rfl Tryd.func35 (by kernel_rfl) rfl #[.string x0_1] rfl (by (try simp only [List.map_toArray, List.map_cons, List.map_nil]); first | done | rfl | (simp only [List.length_drop, List.length_take]; rfl)) ?_; (with_reducible refine (fastjson_skipWS.calls k1 x0_1 t370 _ A10.out).mono ?_); rintro e w' ⟨rfl, ⟨nd, rfl⟩⟩; refine ⟨_, rfl, ?_⟩) | ((with_reducible refine gate_callee (f := 36) rfl ?_); refine goesL_ (some 21) rfl rfl Tryd.func36 (by kernel_rfl) rfl #[.string t370] rfl (by (try simp only [List.map_toArray, List.map_cons, List.map_nil]); first | done | rfl | (simp only [List.length_drop, List.length_take]; rfl)) ?_; (with_reducible refine (ih_fastjson_validateValue k1 (by have := HK1.out; omega) t370 t371 none _ A11.out (HG.out.below (by repeat (first | (with_reducible first | exact HB.out | apply below_alloc | apply pw_below_drewN | apply below_drew1) | exact HB.out)))).mono ?_); rintro e w21 ⟨evz_, rfl, hb⟩; refine ⟨_, rfl, ?_⟩; have n0_ := Aside0.mk (below_step (by repeat (first | (with_reducible first | exact HB.out | apply below_alloc | apply pw_below_drewN | apply below_drew1) | exact HB.out)) hb); clear HB; have HB := n0_; clear n0_; (try clear hb); (try clear hb2); (try clear hk); (try clear hi); (try simp only [errX_none, errX_some])) | ((with_reducible refine gate_callee (f := 35) rfl ?_); refine goesL_ (some 29) rfl rfl Tryd.func35 (by kernel_rfl) rfl #[.string t371] rfl (by (try simp only [List.map_toArray, List.map_cons, List.map_nil]); first | done | rfl | (simp only [List.length_drop, List.length_take]; rfl)) ?_; (with_reducible refine (fastjson_skipWS.calls k1 t371 t374 _ A12.out).mono ?_); rintro e w' ⟨rfl, ⟨nd, rfl⟩⟩; refine ⟨_, rfl, ?_⟩; have p18 : 0 ≤ (0 : Int) := (by omega); have q18 : 0 < t374.size := (by have : (0 : Int) < (t374.size : Int) := of_decide_eq_true (by first | (with_reducible assumption) | assumption); omega); have hx18 := bt_lit t374 0 0 rfl; clear p18; have qi18 : (0 < (t374.size : Int)) = True := eq_true (of_decide_eq_true (by first | (with_reducible assumption) | assumption)); replace q18 := eq_true q18))
       go_roundg k1
       case measure => have := HK1.out; omega
       case rel => exact ⟨(t374.extract 1 t374.size), (by first | rfl | (simp; done) | (simp [nil_ne_, nil_eq_]; done) | (simp [*]; done)), H', ⟨by have := HK1.out; omega⟩, ⟨by repeat (first | (with_reducible first | exact HB.out | apply below_alloc | apply pw_below_drewN | apply below_drew1) | exact HB.out)⟩⟩
      rw [if_neg c20] at H
      exact absurd H (by simp)
     rw [if_neg c19] at H
     have c19b0 : ((bt t374 0) == 44) = false := beq_eq_false_iff_ne.mpr c19
     have c19b1 : ((bt t374 0) != 44) = true := bne_iff_ne.mpr c19
     by_cases c23 : (bt t374 0) = 93
     ·
      rw [if_pos c23] at H
      have c23b0 : ((bt t374 0) == 93) = true := beq_iff_eq.mpr c23
      have c23b1 : ((bt t374 0) != 93) = false := bne_eq_false_iff_eq.mpr c23
      clear c23
      by_cases c24 : 1 ≤ (t374.size : Int)
      ·
       rw [if_pos c24] at H
       have c24b0 := eq_true c24
       have c24b1 : decide (1 ≤ (t374.size : Int)) = true := decide_eq_true c24
       clear c24
       simp only [Option.some.injEq, Prod.mk.injEq] at H
       obtain ⟨rfl, rfl⟩ := H
       go_wp2_with (first | ((with_reducible refine gate_callee (f := 35) rfl ?_); refine goesL_ (some 18) rfl rfl Tryd.func35 (by kernel_rfl) rfl #[.string x0_1] rfl (by (try simp only [List.map_toArray, List.map_cons, List.map_nil]); first | done | rfl | (simp only [List.length_drop, List.length_take]; rfl)) ?_; (with_reducible refine (fastjson_skipWS.calls k1 x0_1 t370 _ A10.out).mono ?_); rintro e w' ⟨rfl, ⟨nd, rfl⟩⟩; refine ⟨_, rfl, ?_⟩) | ((with_reducible refine gate_callee (f := 36) rfl ?_); refine goesL_ (some 21) rfl rfl Tryd.func36 (by kernel_rfl) rfl #[.string t370] rfl (by (try simp only [List.map_toArray, List.map_cons, List.map_nil]); first | done | rfl | (simp only [List.length_drop, List.length_take]; rfl)) ?_; (with_reducible refine (ih_fastjson_validateValue k1 (by have := HK1.out; omega) t370 t371 none _ A11.out (HG.out.below (by repeat (first | (with_reducible first | exact HB.out | apply below_alloc | apply pw_below_drewN | apply below_drew1) | exact HB.out)))).mono ?_); rintro e w25 ⟨evz_, rfl, hb⟩; refine ⟨_, rfl, ?_⟩; have n0_ := Aside0.mk (below_step (by repeat (first | (with_reducible first | exact HB.out | apply below_alloc | apply pw_below_drewN | apply below_drew1) | exact HB.out)) hb); clear HB; have HB := n0_; clear n0_; (try clear hb); (try clear hb2); (try clear hk); (try clear hi); (try simp only [errX_none, errX_some])) | ((with_reducible refine gate_callee (f := 35) rfl ?_); refine goesL_ (some 29) rfl rfl Tryd.func35 (by kernel_rfl) rfl #[.string t371] rfl (by (try simp only [List.map_toArray, List.map_cons, List.map_nil]); first | done | rfl | (simp only [List.length_drop, List.length_take]; rfl)) ?_; (with_reducible refine (fastjson_skipWS.calls k1 t371 t374 _ A12.out).mono ?_); rintro e w' ⟨rfl, ⟨nd, rfl⟩⟩; refine ⟨_, rfl, ?_⟩; have p18 : 0 ≤ (0 : Int) := (by omega); have q18 : 0 < t374.size := (by have : (0 : Int) < (t374.size : Int) := of_decide_eq_true (by first | (with_reducible assumption) | assumption); omega); have hx18 := bt_lit t374 0 0 rfl; clear p18; have qi18 : (0 < (t374.size : Int)) = True := eq_true (of_decide_eq_true (by first | (with_reducible assumption) | assumption)); replace q18 := eq_true q18; have p22 : 0 ≤ (0 : Int) := (by omega); have q22 : 0 < t374.size := (by have : (0 : Int) < (t374.size : Int) := of_decide_eq_true (by first | (with_reducible assumption) | assumption); omega); have hx22 := bt_lit t374 0 0 rfl; clear p22; have qi22 : (0 < (t374.size : Int)) = True := eq_true (of_decide_eq_true (by first | (with_reducible assumption) | assumption)); replace q22 := eq_true q22))
       go_ret2
       first | exact ⟨(0, Value.nilIface), by first | rfl | (simp [errX_none, errX_some] <;> rfl) | (simp [*, errX_none, errX_some] <;> rfl), by repeat (first | (with_reducible first | exact HB.out | apply below_alloc | apply pw_below_drewN | apply below_drew1) | exact HB.out)⟩ | exact ⟨⟨((0, Value.nilIface)).1, ((0, Value.nilIface)).2, by first | rfl | (simp [errX_none, errX_some] <;> rfl) | (simp [*, errX_none, errX_some] <;> rfl)⟩, by repeat (first | (with_reducible first | exact HB.out | apply below_alloc | apply pw_below_drewN | apply below_drew1) | exact HB.out)⟩
      rw [if_neg c24] at H
      exact absurd H (by simp)
     rw [if_neg c23] at H
     have c23b0 : ((bt t374 0) == 93) = false := beq_eq_false_iff_ne.mpr c23
     have c23b1 : ((bt t374 0) != 93) = true := bne_iff_ne.mpr c23
     replace H := Option.bind_eq_some_iff.mp H
     obtain ⟨t376, A260, H⟩ := H
     replace H : (some (t374, t376)) = some (r1, r2) := H
     have A26 := Aside0.mk A260
     clear A260
     simp only [Option.some.injEq, Prod.mk.injEq] at H
     obtain ⟨rfl, rfl⟩ := H
     go_wp2_with (first | ((with_reducible refine gate_callee (f := 35) rfl ?_); refine goesL_ (some 18) rfl rfl Tryd.func35 (by kernel_rfl) rfl #[.string x0_1] rfl (by (try simp only [List.map_toArray, List.map_cons, List.map_nil]); first | done | rfl | (simp only [List.length_drop, List.length_take]; rfl)) ?_; (with_reducible refine (fastjson_skipWS.calls k1 x0_1 t370 _ A10.out).mono ?_); rintro e w' ⟨rfl, ⟨nd, rfl⟩⟩; refine ⟨_, rfl, ?_⟩) | ((with_reducible refine gate_callee (f := 36) rfl ?_); refine goesL_ (some 21) rfl rfl Tryd.func36 (by kernel_rfl) rfl #[.string t370] rfl (by (try simp only [List.map_toArray, List.map_cons, List.map_nil]); first | done | rfl | (simp only [List.length_drop, List.length_take]; rfl)) ?_; (with_reducible refine (ih_fastjson_validateValue k1 (by have := HK1.out; omega) t370 t371 none _ A11.out (HG.out.below (by repeat (first | (with_reducible first | exact HB.out | apply below_alloc | apply pw_below_drewN | apply below_drew1) | exact HB.out)))).mono ?_); rintro e w27 ⟨evz_, rfl, hb⟩; refine ⟨_, rfl, ?_⟩; have n0_ := Aside0.mk (below_step (by repeat (first | (with_reducible first | exact HB.out | apply below_alloc | apply pw_below_drewN | apply below_drew1) | exact HB.out)) hb); clear HB; have HB := n0_; clear n0_; (try clear hb); (try clear hb2); (try clear hk); (try clear hi); (try simp only [errX_none, errX_some])) | ((with_reducible refine gate_callee (f := 35) rfl ?_); refine goesL_ (some 29) rfl rfl Tryd.func35 (by kernel_rfl) rfl #[.string t371] rfl (by (try simp only [List.map_toArray, List.map_cons, List.map_nil]); first | done | rfl | (simp only [List.length_drop, List.length_take]; rfl)) ?_; (with_reducible refine (fastjson_skipWS.calls k1 t371 t374 _ A12.out).mono ?_); rintro e w' ⟨rfl, ⟨nd, rfl⟩⟩; refine ⟨_, rfl, ?_⟩; have p18 : 0 ≤ (0 : Int) := (by omega); have q18 : 0 < t374.size := (by have : (0 : Int) < (t374.size : Int) := of_decide_eq_true (by first | (with_reducible assumption) | assumption); omega); have hx18 := bt_lit t374 0 0 rfl; clear p18; have qi18 : (0 < (t374.size : Int)) = True := eq_true (of_decide_eq_true (by first | (with_reducible assumption) | assumption)); replace q18 := eq_true q18; have p22 : 0 ≤ (0 : Int) := (by omega); have q22 : 0 < t374.size := (by have : (0 : Int) < (t374.size : Int) := of_decide_eq_true (by first | (with_reducible assumption) | assumption); omega); have hx22 := bt_lit t374 0 0 rfl; clear p22; have qi22 : (0 < (t374.size : Int)) = True := eq_true (of_decide_eq_true (by first | (with_reducible assumption) | assumption)); replace q22 := eq_true q22) | ((with_reducible refine gate_callee (f := 37) rfl ?_); refine goesL_ (some 47) rfl rfl Tryd.func37 (by kernel_rfl) rfl #[.string (⟨#[109, 105, 115, 115, 105, 110, 103, 32, 39, 44, 39, 32, 97, 102, 116, 101, 114, 32, 97, 114, 114, 97, 121, 32, 118, 97, 108, 117, 101]⟩ : ByteArray)] rfl (by (try simp only [List.map_toArray, List.map_cons, List.map_nil]); first | done | rfl | (simp only [List.length_drop, List.length_take]; rfl)) ?_; (with_reducible refine (errors_New.calls (⟨#[109, 105, 115, 115, 105, 110, 103, 32, 39, 44, 39, 32, 97, 102, 116, 101, 114, 32, 97, 114, 114, 97, 121, 32, 118, 97, 108, 117, 101]⟩ : ByteArray) t376 _ A26.out).mono ?_); rintro e w28 ⟨evt376, rfl, hb⟩; refine ⟨_, rfl, ?_⟩; have n0_ := Aside0.mk (below_step (by repeat (first | (with_reducible first | exact HB.out | apply below_alloc | apply pw_below_drewN | apply below_drew1) | exact HB.out)) hb); clear HB; have HB := n0_; clear n0_; (try clear hb); (try clear hb2); (try clear hk); (try clear hi); (try simp only [errX_none, errX_some])))
     go_ret2
     first | exact ⟨evt376, by first | rfl | (simp [errX_none, errX_some] <;> rfl) | (simp [*, errX_none, errX_some] <;> rfl), by repeat (first | (with_reducible first | exact HB.out | apply below_alloc | apply pw_below_drewN | apply below_drew1) | exact HB.out)⟩ | exact ⟨⟨(evt376).1, (evt376).2, by first | rfl | (simp [errX_none, errX_some] <;> rfl) | (simp [*, errX_none, errX_some] <;> rfl)⟩, by repeat (first | (with_reducible first | exact HB.out | apply below_alloc | apply pw_below_drewN | apply below_drew1) | exact HB.out)⟩
    rw [if_neg c17] at H
    exact absurd H (by simp)
   have H1 : ((errors_New.f (⟨#[99, 97, 110, 110, 111, 116, 32, 112, 97, 114, 115, 101, 32, 97, 114, 114, 97, 121, 32, 118, 97, 108, 117, 101]⟩ : ByteArray)).bind fun t377 => (some (t371, t377))) = some (r1, r2) := by rw [if_neg (show ¬ (some q373).isNone = true by simp)] at H; exact H
   clear H
   have H := H1
   clear H1
   try simp only [errX_none, errX_some]
   replace H := Option.bind_eq_some_iff.mp H
   obtain ⟨t377, A290, H⟩ := H
   replace H : (some (t371, t377)) = some (r1, r2) := H
   have A29 := Aside0.mk A290
   clear A290
   simp only [Option.some.injEq, Prod.mk.injEq] at H
   obtain ⟨rfl, rfl⟩ := H
   go_wp2_with (first | ((with_reducible refine gate_callee (f := 35) rfl ?_); refine goesL_ (some 18) rfl rfl Tryd.func35 (by kernel_rfl) rfl #[.string x0_1] rfl (by (try simp only [List.map_toArray, List.map_cons, List.map_nil]); first | done | rfl | (simp only [List.length_drop, List.length_take]; rfl)) ?_; (with_reducible refine (fastjson_skipWS.calls k1 x0_1 t370 _ A10.out).mono ?_); rintro e w' ⟨rfl, ⟨nd, rfl⟩⟩; refine ⟨_, rfl, ?_⟩) | ((with_reducible refine gate_callee (f := 36) rfl ?_); refine goesL_ (some 21) rfl rfl Tryd.func36 (by kernel_rfl) rfl #[.string t370] rfl (by (try simp only [List.map_toArray, List.map_cons, List.map_nil]); first | done | rfl | (simp only [List.length_drop, List.length_take]; rfl)) ?_; (with_reducible refine (ih_fastjson_validateValue k1 (by have := HK1.out; omega) t370 t371 (some q373) _ A11.out (HG.out.below (by repeat (first | (with_reducible first | exact HB.out | apply below_alloc | apply pw_below_drewN | apply below_drew1) | exact HB.out)))).mono ?_); rintro e w30 ⟨evt372, rfl, hb⟩; refine ⟨_, rfl, ?_⟩; have n0_ := Aside0.mk (below_step (by repeat (first | (with_reducible first | exact HB.out | apply below_alloc | apply pw_below_drewN | apply below_drew1) | exact HB.out)) hb); clear HB; have HB := n0_; clear n0_; (try clear hb); (try clear hb2); (try clear hk); (try clear hi); (try simp only [errX_none, errX_some])) | ((with_reducible refine gate_callee (f := 37) rfl ?_); refine goesL_ (some 27) rfl rfl Tryd.func37 (by kernel_rfl) rfl #[.string (⟨#[99, 97, 110, 110, 111, 116, 32, 112, 97, 114, 115, 101, 32, 97, 114, 114, 97, 121, 32, 118, 97, 108, 117, 101]⟩ : ByteArray)] rfl (by (try simp only [List.map_toArray, List.map_cons, List.map_nil]); first | done | rfl | (simp only [List.length_drop, List.length_take]; rfl)) ?_; (with_reducible refine (errors_New.calls (⟨#[99, 97, 110, 110, 111, 116, 32, 112, 97, 114, 115, 101, 32, 97, 114, 114, 97, 121, 32, 118, 97, 108, 117, 101]⟩ : ByteArray) t377 _ A29.out).mono ?_); rintro e w31 ⟨evt377, rfl, hb⟩; refine ⟨_, rfl, ?_⟩; have n0_ := Aside0.mk (below_step (by repeat (first | (with_reducible first | exact HB.out | apply below_alloc | apply pw_below_drewN | apply below_drew1) | exact HB.out)) hb); clear HB; have HB := n0_; clear n0_; (try clear hb); (try clear hb2); (try clear hk); (try clear hi); (try simp only [errX_none, errX_some])))
   go_ret2
   first | exact ⟨evt377, by first | rfl | (simp [errX_none, errX_some] <;> rfl) | (simp [*, errX_none, errX_some] <;> rfl), by repeat (first | (with_reducible first | exact HB.out | apply below_alloc | apply pw_below_drewN | apply below_drew1) | exact HB.out)⟩ | exact ⟨⟨(evt377).1, (evt377).2, by first | rfl | (simp [errX_none, errX_some] <;> rfl) | (simp [*, errX_none, errX_some] <;> rfl)⟩, by repeat (first | (with_reducible first | exact HB.out | apply below_alloc | apply pw_below_drewN | apply below_drew1) | exact HB.out)⟩
 rw [if_neg c6] at H
 exact absurd H (by simp)
theorem fastjson_validateObject.calls_g (k : Nat) : fastjson_validateObject.CallsP k ∧ fastjson_validateValue.CallsP k ∧ fastjson_validateArray.CallsP k := by
  induction k using Nat.strongRecOn with
  | _ k ih =>
  exact ⟨fastjson_validateObject.calls_ k (fun m_ h_ => (ih m_ h_).1) (fun m_ h_ => (ih m_ h_).2.1) (fun m_ h_ => (ih m_ h_).2.2), fastjson_validateValue.calls_ k (fun m_ h_ => (ih m_ h_).1) (fun m_ h_ => (ih m_ h_).2.1) (fun m_ h_ => (ih m_ h_).2.2), fastjson_validateArray.calls_ k (fun m_ h_ => (ih m_ h_).1) (fun m_ h_ => (ih m_ h_).2.1) (fun m_ h_ => (ih m_ h_).2.2)⟩
theorem fastjson_validateObject.calls (k : Nat) : ∀ (a0 : ByteArray) (r1 : ByteArray) (r2 : Option Int) (w : World) (h : fastjson_validateObject.f k a0 = some (r1, r2)) (hG : Glob w),
    Calls Tryd.prog 34 #[.string a0] w fun e w' => ∃ evr2 : TypeId × Value, e = .returned (.tuple #[.string r1, errX r2 evr2]) ∧ Below w.heap.size w w' := (fastjson_validateObject.calls_g k).1
def fastjson_DoorCheckObject.f (k : Nat) (a0 : ByteArray) : Option (ByteArray × Option Int) := (fastjson_validateObject.f k a0).bind fun bt378 => (some (bt378.1, bt378.2))
set_option maxHeartbeats 8000000 in
set_option maxRecDepth 100000 in
theorem fastjson_DoorCheckObject.calls (k : Nat) (a0 : ByteArray) (r1 : ByteArray) (r2 : Option Int) (w : World) (h : fastjson_DoorCheckObject.f k a0 = some (r1, r2)) (hG : Glob w) :
    Calls Tryd.prog 20 #[.string a0] w fun e w' => ∃ evr2 : TypeId × Value, e = .returned (.tuple #[.string r1, errX r2 evr2]) ∧ Below w.heap.size w w' := by
 have HB := Aside0.mk (Below.refl w.heap.size w)
 have HG := Aside0.mk hG
 clear hG
 have H : ((fastjson_validateObject.f k a0).bind fun bt378 => (some (bt378.1, bt378.2))) = some (r1, r2) := h
 clear h
 replace H := Option.bind_eq_some_iff.mp H
 obtain ⟨⟨t378, t379⟩, A20, H⟩ := H
 replace H : (some (t378, t379)) = some (r1, r2) := H
 have A2 := Aside0.mk A20
 clear A20
 simp only [Option.some.injEq, Prod.mk.injEq] at H
 obtain ⟨rfl, rfl⟩ := H
 go_enter Tryd.func20, Tryd.ntmps20
 go_wp2_with (first | ((with_reducible refine gate_callee (f := 34) rfl ?_); refine goesL_ (some 5) rfl rfl Tryd.func34 (by kernel_rfl) rfl #[.string a0] rfl (by (try simp only [List.map_toArray, List.map_cons, List.map_nil]); first | done | rfl | (simp only [List.length_drop, List.length_take]; rfl)) ?_; (with_reducible refine (fastjson_validateObject.calls k a0 t378 t379 _ A2.out (HG.out.below (by repeat (first | (with_reducible first | exact HB.out | apply below_alloc | apply pw_below_drewN | apply below_drew1) | exact HB.out)))).mono ?_); rintro e w3 ⟨evt379, rfl, hb⟩; refine ⟨_, rfl, ?_⟩; have n0_ := Aside0.mk (below_step (by repeat (first | (with_reducible first | exact HB.out | apply below_alloc | apply pw_below_drewN | apply below_drew1) | exact HB.out)) hb); clear HB; have HB := n0_; clear n0_; (try clear hb); (try clear hb2); (try clear hk); (try clear hi); (try simp only [errX_none, errX_some])))
 go_ret2
 first | exact ⟨evt379, by first | rfl | (simp [errX_none, errX_some] <;> rfl) | (simp [*, errX_none, errX_some] <;> rfl), by repeat (first | (with_reducible first | exact HB.out | apply below_alloc | apply pw_below_drewN | apply below_drew1) | exact HB.out)⟩ | exact ⟨⟨(evt379).1, (evt379).2, by first | rfl | (simp [errX_none, errX_some] <;> rfl) | (simp [*, errX_none, errX_some] <;> rfl)⟩, by repeat (first | (with_reducible first | exact HB.out | apply below_alloc | apply pw_below_drewN | apply below_drew1) | exact HB.out)⟩
def impl_FjCheckObject.f (k : Nat) (a0 : ByteArray) : Option (ByteArray × Bool) := (fastjson_DoorCheckObject.f k a0).bind fun bt380 => (if bt380.2.isNone = true then (some (bt380.1, true)) else (some ((⟨#[]⟩ : ByteArray), false)))
set_option maxHeartbeats 8000000 in
set_option maxRecDepth 100000 in
theorem impl_FjCheckObject.calls (k : Nat) (a0 : ByteArray) (r1 : ByteArray) (r2 : Bool) (w : World) (h : impl_FjCheckObject.f k a0 = some (r1, r2)) (hG : Glob w) :
    Calls Tryd.prog 9 #[.string a0] w fun e w' => e = .returned (.tuple #[.string r1, .bool r2]) ∧ Below w.heap.size w w' := by
 have hu43 := Tryd.underlying43
 have HB := Aside0.mk (Below.refl w.heap.size w)
 have HG := Aside0.mk hG
 clear hG
 have H : ((fastjson_DoorCheckObject.f k a0).bind fun bt380 => (if bt380.2.isNone = true then (some (bt380.1, true)) else (some ((⟨#[]⟩ : ByteArray), false)))) = some (r1, r2) := h
 clear h
 replace H := Option.bind_eq_some_iff.mp H
 obtain ⟨⟨t380, t381⟩, A20, H⟩ := H
 replace H : (if t381.isNone = true then (some (t380, true)) else (some ((⟨#[]⟩ : ByteArray), false))) = some (r1, r2) := H
 have A2 := Aside0.mk A20
 clear A20
 rcases t381 with _ | q382
 ·
  have H1 : (some (t380, true)) = some (r1, r2) := by rw [if_pos (show (none : Option Int).isNone = true by rfl)] at H; exact H
  clear H
  have H := H1
  clear H1
  try simp only [errX_none, errX_some]
  simp only [Option.some.injEq, Prod.mk.injEq] at H
  obtain ⟨rfl, rfl⟩ := H
  go_enter Tryd.func9, Tryd.ntmps9
  go_wp2_with (first | ((with_reducible refine gate_callee (f := 20) rfl ?_); refine goesL_ (some 8) rfl rfl Tryd.func20 (by kernel_rfl) rfl #[.string a0] rfl (by (try simp only [List.map_toArray, List.map_cons, List.map_nil]); first | done | rfl | (simp only [List.length_drop, List.length_take]; rfl)) ?_; (with_reducible refine (fastjson_DoorCheckObject.calls k a0 t380 none _ A2.out (HG.out.below (by repeat (first | (with_reducible first | exact HB.out | apply below_alloc | apply pw_below_drewN | apply below_drew1) | exact HB.out)))).mono ?_); rintro e w3 ⟨evz_, rfl, hb⟩; refine ⟨_, rfl, ?_⟩; have n0_ := Aside0.mk (below_step (by repeat (first | (with_reducible first | exact HB.out | apply below_alloc | apply pw_below_drewN | apply below_drew1) | exact HB.out)) hb); clear HB; have HB := n0_; clear n0_; (try clear hb); (try clear hb2); (try clear hk); (try clear hi); (try simp only [errX_none, errX_some])))
  go_ret2
  exact ⟨by first | rfl | (simp [errX_none, errX_some] <;> rfl) | (simp [*, errX_none, errX_some] <;> rfl), by repeat (first | (with_reducible first | exact HB.out | apply below_alloc | apply pw_below_drewN | apply below_drew1) | exact HB.out)⟩
 have H1 : (some ((⟨#[]⟩ : ByteArray), false)) = some (r1, r2) := by rw [if_neg (show ¬ (some q382).isNone = true by simp)] at H; exact H
 clear H
 have H := H1
 clear H1
 try simp only [errX_none, errX_some]
 simp only [Option.some.injEq, Prod.mk.injEq] at H
 obtain ⟨rfl, rfl⟩ := H
 go_enter Tryd.func9, Tryd.ntmps9
 go_wp2_with (first | ((with_reducible refine gate_callee (f := 20) rfl ?_); refine goesL_ (some 8) rfl rfl Tryd.func20 (by kernel_rfl) rfl #[.string a0] rfl (by (try simp only [List.map_toArray, List.map_cons, List.map_nil]); first | done | rfl | (simp only [List.length_drop, List.length_take]; rfl)) ?_; (with_reducible refine (fastjson_DoorCheckObject.calls k a0 t380 (some q382) _ A2.out (HG.out.below (by repeat (first | (with_reducible first | exact HB.out | apply below_alloc | apply pw_below_drewN | apply below_drew1) | exact HB.out)))).mono ?_); rintro e w4 ⟨evt381, rfl, hb⟩; refine ⟨_, rfl, ?_⟩; have n0_ := Aside0.mk (below_step (by repeat (first | (with_reducible first | exact HB.out | apply below_alloc | apply pw_below_drewN | apply below_drew1) | exact HB.out)) hb); clear HB; have HB := n0_; clear n0_; (try clear hb); (try clear hb2); (try clear hk); (try clear hi); (try simp only [errX_none, errX_some])))
 go_ret2
 exact ⟨by first | rfl | (simp [errX_none, errX_some] <;> rfl) | (simp [*, errX_none, errX_some] <;> rfl), by repeat (first | (with_reducible first | exact HB.out | apply below_alloc | apply pw_below_drewN | apply below_drew1) | exact HB.out)⟩
def laws_FnFjCheckObject.j0 : Nat → ByteArray → Bool → Option (Bool)
  | 0, _, _ => none
  | k + 1, x0, x19 => if x19 = true then (some true) else (if 1 + x0.size ≤ 9223372036854775807 then ((laws_behind.f k ((⟨#[123]⟩ : ByteArray) ++ x0)).bind fun bt384 => ((impl_FjCheckObject.f k x0).bind fun bt386 => ((impl_FjCheckObject.f k (⟨#[125]⟩ : ByteArray)).bind fun bt388 => (if bt388.2 = true then (if (bt386.2 == bt384.2) = true then (if bt384.2 = true then (some (bt386.1.toList == bt384.1.toList)) else (some true)) else (some false)) else (some false))))) else (none))
def laws_FnFjCheckObject.f (k : Nat) (a0 : ByteArray) : Option (Bool) := if (a0.size : Int) > 2147483647 then (some true) else (if (a0.size : Int) > 4000 then (laws_FnFjCheckObject.j0 k a0 true) else ((laws_fjSteady.f k a0).bind fun t383 => (laws_FnFjCheckObject.j0 k a0 (!t383))))
set_option maxHeartbeats 8000000 in
set_option maxRecDepth 100000 in
theorem laws_FnFjCheckObject.calls (k : Nat) (a0 : ByteArray) (r : Bool) (w : World) (h : laws_FnFjCheckObject.f k a0 = some r) (hG : Glob w) :
    Calls Tryd.prog 3 #[.string a0] w fun e w' => e = .returned (.bool r) ∧ Below w.heap.size w w' := by
 have HB := Aside0.mk (Below.refl w.heap.size w)
 have HG := Aside0.mk hG
 clear hG
 have H : (if (a0.size : Int) > 2147483647 then (some true) else (if (a0.size : Int) > 4000 then (laws_FnFjCheckObject.j0 k a0 true) else ((laws_fjSteady.f k a0).bind fun t383 => (laws_FnFjCheckObject.j0 k a0 (!t383))))) = some r := h
 clear h
 by_cases c2 : (a0.size : Int) > 2147483647
 ·
  rw [if_pos c2] at H
  have c2b0 : decide (2147483647 < (a0.size : Int)) = true := decide_eq_true c2
  have c2b1 : decide (2147483647 < a0.size) = true := decide_eq_true (by omega)
  clear c2
  obtain rfl := Option.some.inj H
  go_enter Tryd.func3, Tryd.ntmps3
  go_wp2
  go_ret
  exact ⟨by first | rfl | (simp [errX_none, errX_some] <;> rfl) | (simp [*, errX_none, errX_some] <;> rfl), by repeat (first | (with_reducible first | exact HB.out | apply below_alloc | apply pw_below_drewN | apply below_drew1) | exact HB.out)⟩
 rw [if_neg c2] at H
 have c2b0 : decide (2147483647 < (a0.size : Int)) = false := decide_eq_false c2
 have c2b1 : decide (2147483647 < a0.size) = false := decide_eq_false (by omega)
 clear c2
 have HC3 := Aside0.mk H
 clear H
 go_enter Tryd.func3, Tryd.ntmps3
 go_upto_region 3 with (fail)
 go_cut [19] (fun v19 wc => ∃ (kq : Nat) (x19_2 : Bool), v19 = .bool x19_2 ∧ Aside0 (laws_FnFjCheckObject.j0 kq a0 x19_2 = some r) ∧ Aside0 (kq ≤ k) ∧ Aside0 (Below w.heap.size w wc))
 case first =>
  have H := HC3.out
  clear HC3
  by_cases c4 : (a0.size : Int) > 4000
  ·
   rw [if_pos c4] at H
   have c4b0 : decide (4000 < (a0.size : Int)) = true := decide_eq_true c4
   have c4b1 : decide (4000 < a0.size) = true := decide_eq_true (by omega)
   clear c4
   (first | rw [c4b0] | (simp only [i64_w, i32_w]; rw [c4b0]) | rw [c4b1] | skip)
   have H' := Aside0.mk H
   clear H
   go_wp2
   go_meet
   case rel => exact ⟨_, (true), (by first | rfl | (simp; done) | (simp [nil_ne_, nil_eq_]; done) | (simp [*]; done)), H', ⟨by first | omega | exact Nat.le_refl _⟩, ⟨by repeat (first | (with_reducible first | exact HB.out | apply below_alloc | apply pw_below_drewN | apply below_drew1) | exact HB.out)⟩⟩
  rw [if_neg c4] at H
  have c4b0 : decide (4000 < (a0.size : Int)) = false := decide_eq_false c4
  have c4b1 : decide (4000 < a0.size) = false := decide_eq_false (by omega)
  clear c4
  (first | rw [c4b0] | (simp only [i64_w, i32_w]; rw [c4b0]) | rw [c4b1] | skip)
  replace H := Option.bind_eq_some_iff.mp H
  obtain ⟨t383, A50, H⟩ := H
  replace H : (laws_FnFjCheckObject.j0 k a0 (!t383)) = some r := H
  have A5 := Aside0.mk A50
  clear A50
  have H' := Aside0.mk H
  clear H
  go_wp2_with (first | (go_at_call 7; (with_reducible refine (laws_fjSteady.calls k a0 t383 _ A5.out).mono ?_); rintro e w' ⟨rfl, ⟨nd, rfl⟩⟩))
  go_meet
  case rel => exact ⟨_, (!t383), (by first | rfl | (simp; done) | (simp [nil_ne_, nil_eq_]; done) | (simp [*]; done)), H', ⟨by first | omega | exact Nat.le_refl _⟩, ⟨by repeat (first | (with_reducible first | exact HB.out | apply below_alloc | apply pw_below_drewN | apply below_drew1) | exact HB.out)⟩⟩
 clear HC3
 try clear c2
 try clear c2b0
 try clear c2b1
 try clear p2
 try clear c3
 try clear c4
 try clear c4b0
 try clear c4b1
 obtain ⟨kq, x19_2, rfl, HA, HJ2, HB⟩ := hcut
 rcases kq with _ | kj2
 · exact absurd HA.out (by simp [laws_FnFjCheckObject.j0])
 have H := HA.out
 clear HA
 simp only [laws_FnFjCheckObject.j0] at H
 by_cases c6 : x19_2 = true
 ·
  subst c6
  have H1 : (some true) = some r := by rw [if_pos rfl] at H; exact H
  clear H
  have H := H1
  clear H1
  obtain rfl := Option.some.inj H
  go_wp2
  go_ret
  exact ⟨by first | rfl | (simp [errX_none, errX_some] <;> rfl) | (simp [*, errX_none, errX_some] <;> rfl), by repeat (first | (with_reducible first | exact HB.out | apply below_alloc | apply pw_below_drewN | apply below_drew1) | exact HB.out)⟩
 replace c6 := Bool.eq_false_iff.mpr c6
 subst c6
 have H1 : (if 1 + a0.size ≤ 9223372036854775807 then ((laws_behind.f kj2 ((⟨#[123]⟩ : ByteArray) ++ a0)).bind fun bt384 => ((impl_FjCheckObject.f kj2 a0).bind fun bt386 => ((impl_FjCheckObject.f kj2 (⟨#[125]⟩ : ByteArray)).bind fun bt388 => (if bt388.2 = true then (if (bt386.2 == bt384.2) = true then (if bt384.2 = true then (some (bt386.1.toList == bt384.1.toList)) else (some true)) else (some false)) else (some false))))) else (none)) = some r := by rw [if_neg (show ¬ (false = true) by decide)] at H; exact H
 clear H
 have H := H1
 clear H1
 by_cases c7 : 1 + a0.size ≤ 9223372036854775807
 ·
  rw [if_pos c7] at H
  have c7b0 := eq_true c7
  have c7b1 : decide (1 + a0.size ≤ 9223372036854775807) = true := decide_eq_true c7
  try have c7b2 : (9223372036854775807 < 1 + a0.size) = False := eq_false (Nat.not_lt.2 c7)
  replace H := Option.bind_eq_some_iff.mp H
  obtain ⟨⟨t384, t385⟩, A80, H⟩ := H
  replace H : ((impl_FjCheckObject.f kj2 a0).bind fun bt386 => ((impl_FjCheckObject.f kj2 (⟨#[125]⟩ : ByteArray)).bind fun bt388 => (if bt388.2 = true then (if (bt386.2 == t385) = true then (if t385 = true then (some (bt386.1.toList == t384.toList)) else (some true)) else (some false)) else (some false)))) = some r := H
  have A8 := Aside0.mk A80
  clear A80
  replace H := Option.bind_eq_some_iff.mp H
  obtain ⟨⟨t386, t387⟩, A90, H⟩ := H
  replace H : ((impl_FjCheckObject.f kj2 (⟨#[125]⟩ : ByteArray)).bind fun bt388 => (if bt388.2 = true then (if (t387 == t385) = true then (if t385 = true then (some (t386.toList == t384.toList)) else (some true)) else (some false)) else (some false))) = some r := H
  have A9 := Aside0.mk A90
  clear A90
  replace H := Option.bind_eq_some_iff.mp H
  obtain ⟨⟨t388, t389⟩, A100, H⟩ := H
  replace H : (if t389 = true then (if (t387 == t385) = true then (if t385 = true then (some (t386.toList == t384.toList)) else (some true)) else (some false)) else (some false)) = some r := H
  have A10 := Aside0.mk A100
  clear A100
  by_cases c11 : t389 = true
  ·
   subst c11
   have H1 : (if (t387 == t385) = true then (if t385 = true then (some (t386.toList == t384.toList)) else (some true)) else (some false)) = some r := by rw [if_pos rfl] at H; exact H
   clear H
   have H := H1
   clear H1
   by_cases c12 : (t387 == t385) = true
   ·
    rw [if_pos c12] at H
    have c12b0 : (t387 == t385) = true := c12
    (try (have c12b1 : decide (t387 = t385) = true := by simpa using c12))
    (try (have c12b2 : (t387 == t385) = true := by simpa using c12))
    clear c12
    by_cases c13 : t385 = true
    ·
     subst c13
     have H1 : (some (t386.toList == t384.toList)) = some r := by rw [if_pos rfl] at H; exact H
     clear H
     have H := H1
     clear H1
     obtain rfl := Option.some.inj H
     go_wp2_with (first | ((with_reducible refine gate_callee (f := 8) rfl ?_); refine goesL_ (some 23) rfl rfl Tryd.func8 (by kernel_rfl) rfl #[.string ((⟨#[123]⟩ : ByteArray) ++ a0)] rfl (by (try simp only [List.map_toArray, List.map_cons, List.map_nil]); first | done | rfl | (simp only [List.length_drop, List.length_take]; rfl)) ?_; (with_reducible refine (laws_behind.calls kj2 ((⟨#[123]⟩ : ByteArray) ++ a0) t384 true _ A8.out).mono ?_); rintro e w14 ⟨rfl, hb⟩; refine ⟨_, rfl, ?_⟩; have n0_ := Aside0.mk (below_step (by repeat (first | (with_reducible first | exact HB.out | apply below_alloc | apply pw_below_drewN | apply below_drew1) | exact HB.out)) hb); clear HB; have HB := n0_; clear n0_; (try clear hb); (try clear hb2); (try clear hk); (try clear hi)) | ((with_reducible refine gate_callee (f := 9) rfl ?_); refine goesL_ (some 28) rfl rfl Tryd.func9 (by kernel_rfl) rfl #[.string a0] rfl (by (try simp only [List.map_toArray, List.map_cons, List.map_nil]); first | done | rfl | (simp only [List.length_drop, List.length_take]; rfl)) ?_; (with_reducible refine (impl_FjCheckObject.calls kj2 a0 t386 t387 _ A9.out (HG.out.below (by repeat (first | (with_reducible first | exact HB.out | apply below_alloc | apply pw_below_drewN | apply below_drew1) | exact HB.out)))).mono ?_); rintro e w15 ⟨rfl, hb⟩; refine ⟨_, rfl, ?_⟩; have n0_ := Aside0.mk (below_step (by repeat (first | (with_reducible first | exact HB.out | apply below_alloc | apply pw_below_drewN | apply below_drew1) | exact HB.out)) hb); clear HB; have HB := n0_; clear n0_; (try clear hb); (try clear hb2); (try clear hk); (try clear hi)) | ((with_reducible refine gate_callee (f := 9) rfl ?_); refine goesL_ (some 32) rfl rfl Tryd.func9 (by kernel_rfl) rfl #[.string (⟨#[125]⟩ : ByteArray)] rfl (by (try simp only [List.map_toArray, List.map_cons, List.map_nil]); first | done | rfl | (simp only [List.length_drop, List.length_take]; rfl)) ?_; (with_reducible refine (impl_FjCheckObject.calls kj2 (⟨#[125]⟩ : ByteArray) t388 true _ A10.out (HG.out.below (by repeat (first | (with_reducible first | exact HB.out | apply below_alloc | apply pw_below_drewN | apply below_drew1) | exact HB.out)))).mono ?_); rintro e w16 ⟨rfl, hb⟩; refine ⟨_, rfl, ?_⟩; have n0_ := Aside0.mk (below_step (by repeat (first | (with_reducible first | exact HB.out | apply below_alloc | apply pw_below_drewN | apply below_drew1) | exact HB.out)) hb); clear HB; have HB := n0_; clear n0_; (try clear hb); (try clear hb2); (try clear hk); (try clear hi)))
     go_ret
     exact ⟨by first | rfl | (simp [errX_none, errX_some] <;> rfl) | (simp [*, errX_none, errX_some] <;> rfl), by repeat (first | (with_reducible first | exact HB.out | apply below_alloc | apply pw_below_drewN | apply below_drew1) | exact HB.out)⟩
    replace c13 := Bool.eq_false_iff.mpr c13
    subst c13
    have H1 : (some true) = some r := by rw [if_neg (show ¬ (false = true) by decide)] at H; exact H
    clear H
    have H := H1
    clear H1
    obtain rfl := Option.some.inj H
    go_wp2_with (first | ((with_reducible refine gate_callee (f := 8) rfl ?_); refine goesL_ (some 23) rfl rfl Tryd.func8 (by kernel_rfl) rfl #[.string ((⟨#[123]⟩ : ByteArray) ++ a0)] rfl (by (try simp only [List.map_toArray, List.map_cons, List.map_nil]); first | done | rfl | (simp only [List.length_drop, List.length_take]; rfl)) ?_; (with_reducible refine (laws_behind.calls kj2 ((⟨#[123]⟩ : ByteArray) ++ a0) t384 false _ A8.out).mono ?_); rintro e w17 ⟨rfl, hb⟩; refine ⟨_, rfl, ?_⟩; have n0_ := Aside0.mk (below_step (by repeat (first | (with_reducible first | exact HB.out | apply below_alloc | apply pw_below_drewN | apply below_drew1) | exact HB.out)) hb); clear HB; have HB := n0_; clear n0_; (try clear hb); (try clear hb2); (try clear hk); (try clear hi)) | ((with_reducible refine gate_callee (f := 9) rfl ?_); refine goesL_ (some 28) rfl rfl Tryd.func9 (by kernel_rfl) rfl #[.string a0] rfl (by (try simp only [List.map_toArray, List.map_cons, List.map_nil]); first | done | rfl | (simp only [List.length_drop, List.length_take]; rfl)) ?_; (with_reducible refine (impl_FjCheckObject.calls kj2 a0 t386 t387 _ A9.out (HG.out.below (by repeat (first | (with_reducible first | exact HB.out | apply below_alloc | apply pw_below_drewN | apply below_drew1) | exact HB.out)))).mono ?_); rintro e w18 ⟨rfl, hb⟩; refine ⟨_, rfl, ?_⟩; have n0_ := Aside0.mk (below_step (by repeat (first | (with_reducible first | exact HB.out | apply below_alloc | apply pw_below_drewN | apply below_drew1) | exact HB.out)) hb); clear HB; have HB := n0_; clear n0_; (try clear hb); (try clear hb2); (try clear hk); (try clear hi)) | ((with_reducible refine gate_callee (f := 9) rfl ?_); refine goesL_ (some 32) rfl rfl Tryd.func9 (by kernel_rfl) rfl #[.string (⟨#[125]⟩ : ByteArray)] rfl (by (try simp only [List.map_toArray, List.map_cons, List.map_nil]); first | done | rfl | (simp only [List.length_drop, List.length_take]; rfl)) ?_; (with_reducible refine (impl_FjCheckObject.calls kj2 (⟨#[125]⟩ : ByteArray) t388 true _ A10.out (HG.out.below (by repeat (first | (with_reducible first | exact HB.out | apply below_alloc | apply pw_below_drewN | apply below_drew1) | exact HB.out)))).mono ?_); rintro e w19 ⟨rfl, hb⟩; refine ⟨_, rfl, ?_⟩; have n0_ := Aside0.mk (below_step (by repeat (first | (with_reducible first | exact HB.out | apply below_alloc | apply pw_below_drewN | apply below_drew1) | exact HB.out)) hb); clear HB; have HB := n0_; clear n0_; (try clear hb); (try clear hb2); (try clear hk); (try clear hi)))
    go_ret
    exact ⟨by first | rfl | (simp [errX_none, errX_some] <;> rfl) | (simp [*, errX_none, errX_some] <;> rfl), by repeat (first | (with_reducible first | exact HB.out | apply below_alloc | apply pw_below_drewN | apply below_drew1) | exact HB.out)⟩
   rw [if_neg c12] at H
   have c12b0 : (t387 == t385) = false := by simpa using c12
   (try (have c12b1 : decide (t387 = t385) = false := by simpa using c12))
   (try (have c12b2 : (t387 == t385) = false := by simpa using c12))
   (try (have c12b3 : ¬ (t387 = t385) := by simpa using c12))
   clear c12
   obtain rfl := Option.some.inj H
   go_wp2_with (first | ((with_reducible refine gate_callee (f := 8) rfl ?_); refine goesL_ (some 23) rfl rfl Tryd.func8 (by kernel_rfl) rfl #[.string ((⟨#[123]⟩ : ByteArray) ++ a0)] rfl (by (try simp only [List.map_toArray, List.map_cons, List.map_nil]); first | done | rfl | (simp only [List.length_drop, List.length_take]; rfl)) ?_; (with_reducible refine (laws_behind.calls kj2 ((⟨#[123]⟩ : ByteArray) ++ a0) t384 t385 _ A8.out).mono ?_); rintro e w20 ⟨rfl, hb⟩; refine ⟨_, rfl, ?_⟩; have n0_ := Aside0.mk (below_step (by repeat (first | (with_reducible first | exact HB.out | apply below_alloc | apply pw_below_drewN | apply below_drew1) | exact HB.out)) hb); clear HB; have HB := n0_; clear n0_; (try clear hb); (try clear hb2); (try clear hk); (try clear hi)) | ((with_reducible refine gate_callee (f := 9) rfl ?_); refine goesL_ (some 28) rfl rfl Tryd.func9 (by kernel_rfl) rfl #[.string a0] rfl (by (try simp only [List.map_toArray, List.map_cons, List.map_nil]); first | done | rfl | (simp only [List.length_drop, List.length_take]; rfl)) ?_; (with_reducible refine (impl_FjCheckObject.calls kj2 a0 t386 t387 _ A9.out (HG.out.below (by repeat (first | (with_reducible first | exact HB.out | apply below_alloc | apply pw_below_drewN | apply below_drew1) | exact HB.out)))).mono ?_); rintro e w21 ⟨rfl, hb⟩; refine ⟨_, rfl, ?_⟩; have n0_ := Aside0.mk (below_step (by repeat (first | (with_reducible first | exact HB.out | apply below_alloc | apply pw_below_drewN | apply below_drew1) | exact HB.out)) hb); clear HB; have HB := n0_; clear n0_; (try clear hb); (try clear hb2); (try clear hk); (try clear hi)) | ((with_reducible refine gate_callee (f := 9) rfl ?_); refine goesL_ (some 32) rfl rfl Tryd.func9 (by kernel_rfl) rfl #[.string (⟨#[125]⟩ : ByteArray)] rfl (by (try simp only [List.map_toArray, List.map_cons, List.map_nil]); first | done | rfl | (simp only [List.length_drop, List.length_take]; rfl)) ?_; (with_reducible refine (impl_FjCheckObject.calls kj2 (⟨#[125]⟩ : ByteArray) t388 true _ A10.out (HG.out.below (by repeat (first | (with_reducible first | exact HB.out | apply below_alloc | apply pw_below_drewN | apply below_drew1) | exact HB.out)))).mono ?_); rintro e w22 ⟨rfl, hb⟩; refine ⟨_, rfl, ?_⟩; have n0_ := Aside0.mk (below_step (by repeat (first | (with_reducible first | exact HB.out | apply below_alloc | apply pw_below_drewN | apply below_drew1) | exact HB.out)) hb); clear HB; have HB := n0_; clear n0_; (try clear hb); (try clear hb2); (try clear hk); (try clear hi)))
   go_ret
   exact ⟨by first | rfl | (simp [errX_none, errX_some] <;> rfl) | (simp [*, errX_none, errX_some] <;> rfl), by repeat (first | (with_reducible first | exact HB.out | apply below_alloc | apply pw_below_drewN | apply below_drew1) | exact HB.out)⟩
  replace c11 := Bool.eq_false_iff.mpr c11
  subst c11
  have H1 : (some false) = some r := by rw [if_neg (show ¬ (false = true) by decide)] at H; exact H
  clear H
  have H := H1
  clear H1
  obtain rfl := Option.some.inj H
  go_wp2_with (first | ((with_reducible refine gate_callee (f := 8) rfl ?_); refine goesL_ (some 23) rfl rfl Tryd.func8 (by kernel_rfl) rfl #[.string ((⟨#[123]⟩ : ByteArray) ++ a0)] rfl (by (try simp only [List.map_toArray, List.map_cons, List.map_nil]); first | done | rfl | (simp only [List.length_drop, List.length_take]; rfl)) ?_; (with_reducible refine (laws_behind.calls kj2 ((⟨#[123]⟩ : ByteArray) ++ a0) t384 t385 _ A8.out).mono ?_); rintro e w23 ⟨rfl, hb⟩; refine ⟨_, rfl, ?_⟩; have n0_ := Aside0.mk (below_step (by repeat (first | (with_reducible first | exact HB.out | apply below_alloc | apply pw_below_drewN | apply below_drew1) | exact HB.out)) hb); clear HB; have HB := n0_; clear n0_; (try clear hb); (try clear hb2); (try clear hk); (try clear hi)) | ((with_reducible refine gate_callee (f := 9) rfl ?_); refine goesL_ (some 28) rfl rfl Tryd.func9 (by kernel_rfl) rfl #[.string a0] rfl (by (try simp only [List.map_toArray, List.map_cons, List.map_nil]); first | done | rfl | (simp only [List.length_drop, List.length_take]; rfl)) ?_; (with_reducible refine (impl_FjCheckObject.calls kj2 a0 t386 t387 _ A9.out (HG.out.below (by repeat (first | (with_reducible first | exact HB.out | apply below_alloc | apply pw_below_drewN | apply below_drew1) | exact HB.out)))).mono ?_); rintro e w24 ⟨rfl, hb⟩; refine ⟨_, rfl, ?_⟩; have n0_ := Aside0.mk (below_step (by repeat (first | (with_reducible first | exact HB.out | apply below_alloc | apply pw_below_drewN | apply below_drew1) | exact HB.out)) hb); clear HB; have HB := n0_; clear n0_; (try clear hb); (try clear hb2); (try clear hk); (try clear hi)) | ((with_reducible refine gate_callee (f := 9) rfl ?_); refine goesL_ (some 32) rfl rfl Tryd.func9 (by kernel_rfl) rfl #[.string (⟨#[125]⟩ : ByteArray)] rfl (by (try simp only [List.map_toArray, List.map_cons, List.map_nil]); first | done | rfl | (simp only [List.length_drop, List.length_take]; rfl)) ?_; (with_reducible refine (impl_FjCheckObject.calls kj2 (⟨#[125]⟩ : ByteArray) t388 false _ A10.out (HG.out.below (by repeat (first | (with_reducible first | exact HB.out | apply below_alloc | apply pw_below_drewN | apply below_drew1) | exact HB.out)))).mono ?_); rintro e w25 ⟨rfl, hb⟩; refine ⟨_, rfl, ?_⟩; have n0_ := Aside0.mk (below_step (by repeat (first | (with_reducible first | exact HB.out | apply below_alloc | apply pw_below_drewN | apply below_drew1) | exact HB.out)) hb); clear HB; have HB := n0_; clear n0_; (try clear hb); (try clear hb2); (try clear hk); (try clear hi)))
  go_ret
  exact ⟨by first | rfl | (simp [errX_none, errX_some] <;> rfl) | (simp [*, errX_none, errX_some] <;> rfl), by repeat (first | (with_reducible first | exact HB.out | apply below_alloc | apply pw_below_drewN | apply below_drew1) | exact HB.out)⟩
 rw [if_neg c7] at H
 exact absurd H (by simp)
/-- THE ONE PURE STATEMENT of laws_FnFjCheckObject: yours. -/
def laws_FnFjCheckObject.Pure : Prop := ∀ (a0 : ByteArray), a0.size ≤ 140737488351232 → ∃ k, laws_FnFjCheckObject.f k a0 = some true
theorem laws_FnFjCheckObject.walk (P : laws_FnFjCheckObject.Pure) (a0 : ByteArray) (w : World) (w0 : a0.size ≤ 140737488351232) (hG : Glob w) :
    Calls Tryd.prog 3 #[.string a0] w fun e w' => e = .returned (.bool true) ∧ Below w.heap.size w w' := by
  obtain ⟨k, h⟩ := P a0 w0
  refine (laws_FnFjCheckObject.calls k a0 true w h hG).mono ?_
  rintro e w' ⟨rfl, hd⟩
  exact ⟨rfl, hd⟩
end Go.Proofs.YtdhiihegfdmokaaDoor.PFnFjCheckObject