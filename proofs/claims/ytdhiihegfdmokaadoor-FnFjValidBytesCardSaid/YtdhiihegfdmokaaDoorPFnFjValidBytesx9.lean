-- Written by a program of this session (wip/prx) out of the print of the loaded functions.
import Derived.Test.YtdhiihegfdmokaaDoorPFnFjValidBytesx0
import Derived.Test.YtdhiihegfdmokaaDoorPFnFjValidBytesx1
import Derived.Test.YtdhiihegfdmokaaDoorPFnFjValidBytesx6
import Derived.Test.YtdhiihegfdmokaaDoorPFnFjValidBytesx7
import Derived.Test.YtdhiihegfdmokaaDoorPFnFjValidBytesx8
import Derived.Test.YtdhiihegfdmokaaDoorGXFnFjValidBytes
import Derived.Test.YtdhiihegfdmokaaDoorHEFnFjValidBytes
import Derived.Test.YtdhiihegfdmokaaDoorWCFnFjValidBytes
namespace Go.Proofs.YtdhiihegfdmokaaDoor.PFnFjValidBytes
open Go.RowKit Go.Proofs.YtdhiihegfdmokaaDoorW.PrintWords Go.Proofs.YtdhiihegfdmokaaDoorW.PrintLast Go.Proofs.YtdhiihegfdmokaaDoorW.PrintMore
attribute [local go_sem] max2_int min2_int max_two min_two max_three min_three max_four min_four   -- for this text's walks alone
set_option linter.unusedVariables false
set_option linter.unusedSimpArgs false

/-! ### fastjson_validateArray: function 55 -/
set_option maxHeartbeats 8000000 in
set_option maxRecDepth 100000 in
theorem fastjson_validateArray.calls_ (k : Nat) (ih_fastjson_validateObject : ∀ m_, m_ < k → fastjson_validateObject.CallsP m_) (ih_fastjson_validateValue : ∀ m_, m_ < k → fastjson_validateValue.CallsP m_) (ih_fastjson_validateArray : ∀ m_, m_ < k → fastjson_validateArray.CallsP m_) : fastjson_validateArray.CallsP k := by
 intro a0 r1 r2 w h hG
 cases k with
  | zero => exact absurd h (by simp [fastjson_validateArray.f])
  | succ k =>
 simp only [fastjson_validateArray.f] at h
 have hu43 := Tryd.underlying43
 have HB := Aside0.mk (Below.refl w.heap.size w)
 have HG := Aside0.mk hG
 clear hG
 have H : ((fastjson_skipWS.f k a0).bind fun t178 => (if (t178.size : Int) = 0 then ((errors_New.f (⟨#[109, 105, 115, 115, 105, 110, 103, 32, 39, 93]⟩ : ByteArray)).bind fun t179 => (some (t178, t179))) else (if 0 < (t178.size : Int) then (if (bt t178 0) = 93 then (if 1 ≤ (t178.size : Int) then (some (t178.extract 1 t178.size, none)) else (none)) else (fastjson_validateArray.l0 k t178)) else (none)))) = some (r1, r2) := h
 clear h
 replace H := Option.bind_eq_some_iff.mp H
 obtain ⟨t178, A20, H⟩ := H
 replace H : (if (t178.size : Int) = 0 then ((errors_New.f (⟨#[109, 105, 115, 115, 105, 110, 103, 32, 39, 93]⟩ : ByteArray)).bind fun t179 => (some (t178, t179))) else (if 0 < (t178.size : Int) then (if (bt t178 0) = 93 then (if 1 ≤ (t178.size : Int) then (some (t178.extract 1 t178.size, none)) else (none)) else (fastjson_validateArray.l0 k t178)) else (none))) = some (r1, r2) := H
 have A2 := Aside0.mk A20
 clear A20
 by_cases c3 : (t178.size : Int) = 0
 ·
  rw [if_pos c3] at H
  have c3b0 : ((t178.size : Int) == 0) = true := beq_iff_eq.mpr c3
  have c3b1 : ((t178.size : Int) != 0) = false := bne_eq_false_iff_eq.mpr c3
  clear c3
  replace H := Option.bind_eq_some_iff.mp H
  obtain ⟨t179, A40, H⟩ := H
  replace H : (some (t178, t179)) = some (r1, r2) := H
  have A4 := Aside0.mk A40
  clear A40
  simp only [Option.some.injEq, Prod.mk.injEq] at H
  obtain ⟨rfl, rfl⟩ := H
  go_enter Tryd.func55, Tryd.ntmps55
  go_wp2_with (first | ((with_reducible refine gate_callee (f := 35) rfl ?_); refine goesL_ (some 6) rfl rfl Tryd.func35 (by kernel_rfl) rfl #[.string a0] rfl (by (try simp only [List.map_toArray, List.map_cons, List.map_nil]); first | done | rfl | (simp only [List.length_drop, List.length_take]; rfl)) ?_; (with_reducible refine (fastjson_skipWS.calls k a0 t178 _ A2.out).mono ?_); rintro e w' ⟨rfl, ⟨nd, rfl⟩⟩; refine ⟨_, rfl, ?_⟩) | ((with_reducible refine gate_callee (f := 37) rfl ?_); refine goesL_ (some 11) rfl rfl Tryd.func37 (by kernel_rfl) rfl #[.string (⟨#[109, 105, 115, 115, 105, 110, 103, 32, 39, 93]⟩ : ByteArray)] rfl (by (try simp only [List.map_toArray, List.map_cons, List.map_nil]); first | done | rfl | (simp only [List.length_drop, List.length_take]; rfl)) ?_; (with_reducible refine (errors_New.calls (⟨#[109, 105, 115, 115, 105, 110, 103, 32, 39, 93]⟩ : ByteArray) t179 _ A4.out).mono ?_); rintro e w5 ⟨evt179, rfl, hb⟩; refine ⟨_, rfl, ?_⟩; have n0_ := Aside0.mk (below_step (by repeat (first | (with_reducible first | exact HB.out | apply below_alloc | apply pw_below_drewN | apply below_drew1) | exact HB.out)) hb); clear HB; have HB := n0_; clear n0_; (try clear hb); (try clear hb2); (try clear hk); (try clear hi); (try simp only [errX_none, errX_some])))
  go_ret2
  first | exact ⟨evt179, by first | rfl | (simp [errX_none, errX_some] <;> rfl) | (simp [*, errX_none, errX_some] <;> rfl), by repeat (first | (with_reducible first | exact HB.out | apply below_alloc | apply pw_below_drewN | apply below_drew1) | exact HB.out)⟩ | exact ⟨⟨(evt179).1, (evt179).2, by first | rfl | (simp [errX_none, errX_some] <;> rfl) | (simp [*, errX_none, errX_some] <;> rfl)⟩, by repeat (first | (with_reducible first | exact HB.out | apply below_alloc | apply pw_below_drewN | apply below_drew1) | exact HB.out)⟩
 ·
  rw [if_neg c3] at H
  have c3b0 : ((t178.size : Int) == 0) = false := beq_eq_false_iff_ne.mpr c3
  have c3b1 : ((t178.size : Int) != 0) = true := bne_iff_ne.mpr c3
  by_cases c6 : 0 < (t178.size : Int)
  ·
   rw [if_pos c6] at H
   have c6b0 : decide (0 < (t178.size : Int)) = true := decide_eq_true c6
   have c6b1 : decide (0 < t178.size) = true := decide_eq_true (by omega)
   clear c6
   by_cases c8 : (bt t178 0) = 93
   ·
    rw [if_pos c8] at H
    have c8b0 : ((bt t178 0) == 93) = true := beq_iff_eq.mpr c8
    have c8b1 : ((bt t178 0) != 93) = false := bne_eq_false_iff_eq.mpr c8
    clear c8
    by_cases c9 : 1 ≤ (t178.size : Int)
    ·
     rw [if_pos c9] at H
     have c9b0 := eq_true c9
     have c9b1 : decide (1 ≤ (t178.size : Int)) = true := decide_eq_true c9
     clear c9
     obtain ⟨js10, hjs10⟩ : ∃ j_ : ByteArray, (t178.extract 1 t178.size) = j_ := ⟨_, rfl⟩
     skip
     replace H : (some (js10, none)) = some (r1, r2) := by first | (rw [hjs10] at H; exact H) | (simp only [hjs10] at H ⊢; exact H)
     simp only [Option.some.injEq, Prod.mk.injEq] at H
     obtain ⟨rfl, rfl⟩ := H
     go_enter Tryd.func55, Tryd.ntmps55
     go_wp2_with (first | ((with_reducible refine gate_callee (f := 35) rfl ?_); refine goesL_ (some 6) rfl rfl Tryd.func35 (by kernel_rfl) rfl #[.string a0] rfl (by (try simp only [List.map_toArray, List.map_cons, List.map_nil]); first | done | rfl | (simp only [List.length_drop, List.length_take]; rfl)) ?_; (with_reducible refine (fastjson_skipWS.calls k a0 t178 _ A2.out).mono ?_); rintro e w' ⟨rfl, ⟨nd, rfl⟩⟩; refine ⟨_, rfl, ?_⟩; have p7 : 0 ≤ (0 : Int) := (by omega); have q7 : 0 < t178.size := (by have : (0 : Int) < (t178.size : Int) := of_decide_eq_true (by first | (with_reducible assumption) | assumption); omega); have hx7 := bt_lit t178 0 0 rfl; clear p7; have qi7 : (0 < (t178.size : Int)) = True := eq_true (of_decide_eq_true (by first | (with_reducible assumption) | assumption)); replace q7 := eq_true q7))
     go_ret2
     first | exact ⟨(0, Value.nilIface), by first | rfl | (simp [errX_none, errX_some] <;> rfl) | (simp only [← hjs10]; first | rfl | (simp [errX_none, errX_some] <;> rfl)) | (simp [*, errX_none, errX_some] <;> rfl), by repeat (first | (with_reducible first | exact HB.out | apply below_alloc | apply pw_below_drewN | apply below_drew1) | exact HB.out)⟩ | exact ⟨⟨((0, Value.nilIface)).1, ((0, Value.nilIface)).2, by first | rfl | (simp [errX_none, errX_some] <;> rfl) | (simp only [← hjs10]; first | rfl | (simp [errX_none, errX_some] <;> rfl)) | (simp [*, errX_none, errX_some] <;> rfl)⟩, by repeat (first | (with_reducible first | exact HB.out | apply below_alloc | apply pw_below_drewN | apply below_drew1) | exact HB.out)⟩
    ·
     rw [if_neg c9] at H
     exact absurd H (by simp)
   ·
    rw [if_neg c8] at H
    have c8b0 : ((bt t178 0) == 93) = false := beq_eq_false_iff_ne.mpr c8
    have c8b1 : ((bt t178 0) != 93) = true := bne_iff_ne.mpr c8
    have H' := Aside0.mk H
    clear H
    go_enter Tryd.func55, Tryd.ntmps55
    go_wp2_with (first | ((with_reducible refine gate_callee (f := 35) rfl ?_); refine goesL_ (some 6) rfl rfl Tryd.func35 (by kernel_rfl) rfl #[.string a0] rfl (by (try simp only [List.map_toArray, List.map_cons, List.map_nil]); first | done | rfl | (simp only [List.length_drop, List.length_take]; rfl)) ?_; (with_reducible refine (fastjson_skipWS.calls k a0 t178 _ A2.out).mono ?_); rintro e w' ⟨rfl, ⟨nd, rfl⟩⟩; refine ⟨_, rfl, ?_⟩; have p7 : 0 ≤ (0 : Int) := (by omega); have q7 : 0 < t178.size := (by have : (0 : Int) < (t178.size : Int) := of_decide_eq_true (by first | (with_reducible assumption) | assumption); omega); have hx7 := bt_lit t178 0 0 rfl; clear p7; have qi7 : (0 < (t178.size : Int)) = True := eq_true (of_decide_eq_true (by first | (with_reducible assumption) | assumption)); replace q7 := eq_true q7))
    try simp only [Act.put, List.setIfInBounds_toArray, List.set_cons_succ, List.set_cons_zero]
    go_loopg [0] k (fun kq v0 w' => ∃ (x0_1 : ByteArray), v0 = .string x0_1 ∧ Aside0 (fastjson_validateArray.l0 kq x0_1 = some (r1, r2)) ∧ Aside0 (kq ≤ k) ∧ Aside0 (Below w.heap.size w w'))
    case atStart => exact ⟨(t178), (by first | rfl | (simp; done) | (simp [nil_ne_, nil_eq_]; done) | (simp [*]; done)), H', ⟨Nat.le_refl _⟩, ⟨by repeat (first | (with_reducible first | exact HB.out | apply below_alloc | apply pw_below_drewN | apply below_drew1) | exact HB.out)⟩⟩
    case round =>
     clear H'
     try clear p2
     try clear c3
     try clear c3b0
     try clear c3b1
     try clear c5
     try clear c6
     try clear c6b0
     try clear c6b1
     try clear p7
     try clear q7
     try clear hx7
     try clear qi7
     try clear c8
     try clear c8b0
     try clear c8b1
     try clear c9
     try clear c9b0
     try clear c9b1
     try clear p7
     try clear q7
     obtain ⟨x0_1, rfl, HA, HK1, HB⟩ := hrel
     cases gk with
     | zero => exact absurd HA.out (by simp [fastjson_validateArray.l0])
     | succ k1 =>
      have H := HA.out
      clear HA
      simp only [fastjson_validateArray.l0] at H
      replace H := Option.bind_eq_some_iff.mp H
      obtain ⟨t180, A110, H⟩ := H
      replace H : ((fastjson_validateValue.f k1 t180).bind fun bt181 => (if bt181.2.isNone = true then ((fastjson_skipWS.f k1 bt181.1).bind fun t184 => (if (t184.size : Int) = 0 then ((errors_New.f (⟨#[117, 110, 101, 120, 112, 101, 99, 116, 101, 100, 32, 101, 110, 100, 32, 111, 102, 32, 97, 114, 114, 97, 121]⟩ : ByteArray)).bind fun t185 => (some (t184, t185))) else (if 0 < (t184.size : Int) then (if (bt t184 0) = 44 then (if 1 ≤ (t184.size : Int) then (fastjson_validateArray.l0 k1 (t184.extract 1 t184.size)) else (none)) else (if (bt t184 0) = 93 then (if 1 ≤ (t184.size : Int) then (some (t184.extract 1 t184.size, none)) else (none)) else ((errors_New.f (⟨#[109, 105, 115, 115, 105, 110, 103, 32, 39, 44, 39, 32, 97, 102, 116, 101, 114, 32, 97, 114, 114, 97, 121, 32, 118, 97, 108, 117, 101]⟩ : ByteArray)).bind fun t186 => (some (t184, t186))))) else (none)))) else ((errors_New.f (⟨#[99, 97, 110, 110, 111, 116, 32, 112, 97, 114, 115, 101, 32, 97, 114, 114, 97, 121, 32, 118, 97, 108, 117, 101]⟩ : ByteArray)).bind fun t187 => (some (bt181.1, t187))))) = some (r1, r2) := H
      have A11 := Aside0.mk A110
      clear A110
      replace H := Option.bind_eq_some_iff.mp H
      obtain ⟨⟨t181, t182⟩, A120, H⟩ := H
      replace H : (if t182.isNone = true then ((fastjson_skipWS.f k1 t181).bind fun t184 => (if (t184.size : Int) = 0 then ((errors_New.f (⟨#[117, 110, 101, 120, 112, 101, 99, 116, 101, 100, 32, 101, 110, 100, 32, 111, 102, 32, 97, 114, 114, 97, 121]⟩ : ByteArray)).bind fun t185 => (some (t184, t185))) else (if 0 < (t184.size : Int) then (if (bt t184 0) = 44 then (if 1 ≤ (t184.size : Int) then (fastjson_validateArray.l0 k1 (t184.extract 1 t184.size)) else (none)) else (if (bt t184 0) = 93 then (if 1 ≤ (t184.size : Int) then (some (t184.extract 1 t184.size, none)) else (none)) else ((errors_New.f (⟨#[109, 105, 115, 115, 105, 110, 103, 32, 39, 44, 39, 32, 97, 102, 116, 101, 114, 32, 97, 114, 114, 97, 121, 32, 118, 97, 108, 117, 101]⟩ : ByteArray)).bind fun t186 => (some (t184, t186))))) else (none)))) else ((errors_New.f (⟨#[99, 97, 110, 110, 111, 116, 32, 112, 97, 114, 115, 101, 32, 97, 114, 114, 97, 121, 32, 118, 97, 108, 117, 101]⟩ : ByteArray)).bind fun t187 => (some (t181, t187)))) = some (r1, r2) := H
      have A12 := Aside0.mk A120
      clear A120
      rcases t182 with _ | q183
      ·
       have H1 : ((fastjson_skipWS.f k1 t181).bind fun t184 => (if (t184.size : Int) = 0 then ((errors_New.f (⟨#[117, 110, 101, 120, 112, 101, 99, 116, 101, 100, 32, 101, 110, 100, 32, 111, 102, 32, 97, 114, 114, 97, 121]⟩ : ByteArray)).bind fun t185 => (some (t184, t185))) else (if 0 < (t184.size : Int) then (if (bt t184 0) = 44 then (if 1 ≤ (t184.size : Int) then (fastjson_validateArray.l0 k1 (t184.extract 1 t184.size)) else (none)) else (if (bt t184 0) = 93 then (if 1 ≤ (t184.size : Int) then (some (t184.extract 1 t184.size, none)) else (none)) else ((errors_New.f (⟨#[109, 105, 115, 115, 105, 110, 103, 32, 39, 44, 39, 32, 97, 102, 116, 101, 114, 32, 97, 114, 114, 97, 121, 32, 118, 97, 108, 117, 101]⟩ : ByteArray)).bind fun t186 => (some (t184, t186))))) else (none)))) = some (r1, r2) := by rw [if_pos (show (none : Option Int).isNone = true by rfl)] at H; exact H
       clear H
       have H := H1
       clear H1
       try simp only [errX_none, errX_some]
       replace H := Option.bind_eq_some_iff.mp H
       obtain ⟨t184, A130, H⟩ := H
       replace H : (if (t184.size : Int) = 0 then ((errors_New.f (⟨#[117, 110, 101, 120, 112, 101, 99, 116, 101, 100, 32, 101, 110, 100, 32, 111, 102, 32, 97, 114, 114, 97, 121]⟩ : ByteArray)).bind fun t185 => (some (t184, t185))) else (if 0 < (t184.size : Int) then (if (bt t184 0) = 44 then (if 1 ≤ (t184.size : Int) then (fastjson_validateArray.l0 k1 (t184.extract 1 t184.size)) else (none)) else (if (bt t184 0) = 93 then (if 1 ≤ (t184.size : Int) then (some (t184.extract 1 t184.size, none)) else (none)) else ((errors_New.f (⟨#[109, 105, 115, 115, 105, 110, 103, 32, 39, 44, 39, 32, 97, 102, 116, 101, 114, 32, 97, 114, 114, 97, 121, 32, 118, 97, 108, 117, 101]⟩ : ByteArray)).bind fun t186 => (some (t184, t186))))) else (none))) = some (r1, r2) := H
       have A13 := Aside0.mk A130
       clear A130
       by_cases c14 : (t184.size : Int) = 0
       ·
        rw [if_pos c14] at H
        have c14b0 : ((t184.size : Int) == 0) = true := beq_iff_eq.mpr c14
        have c14b1 : ((t184.size : Int) != 0) = false := bne_eq_false_iff_eq.mpr c14
        clear c14
        replace H := Option.bind_eq_some_iff.mp H
        obtain ⟨t185, A150, H⟩ := H
        replace H : (some (t184, t185)) = some (r1, r2) := H
        have A15 := Aside0.mk A150
        clear A150
        simp only [Option.some.injEq, Prod.mk.injEq] at H
        obtain ⟨rfl, rfl⟩ := H
        go_wp2_with (first | ((with_reducible refine gate_callee (f := 35) rfl ?_); refine goesL_ (some 18) rfl rfl Tryd.func35 (by kernel_rfl) rfl #[.string x0_1] rfl (by (try simp only [List.map_toArray, List.map_cons, List.map_nil]); first | done | rfl | (simp only [List.length_drop, List.length_take]; rfl)) ?_; (with_reducible refine (fastjson_skipWS.calls k1 x0_1 t180 _ A11.out).mono ?_); rintro e w' ⟨rfl, ⟨nd, rfl⟩⟩; refine ⟨_, rfl, ?_⟩) | ((with_reducible refine gate_callee (f := 36) rfl ?_); refine goesL_ (some 21) rfl rfl Tryd.func36 (by kernel_rfl) rfl #[.string t180] rfl (by (try simp only [List.map_toArray, List.map_cons, List.map_nil]); first | done | rfl | (simp only [List.length_drop, List.length_take]; rfl)) ?_; (with_reducible refine (ih_fastjson_validateValue k1 (by have := HK1.out; omega) t180 t181 none _ A12.out (HG.out.below (by repeat (first | (with_reducible first | exact HB.out | apply below_alloc | apply pw_below_drewN | apply below_drew1) | exact HB.out)))).mono ?_); rintro e w16 ⟨evz_, rfl, hb⟩; refine ⟨_, rfl, ?_⟩; have n0_ := Aside0.mk (below_step (by repeat (first | (with_reducible first | exact HB.out | apply below_alloc | apply pw_below_drewN | apply below_drew1) | exact HB.out)) hb); clear HB; have HB := n0_; clear n0_; (try clear hb); (try clear hb2); (try clear hk); (try clear hi); (try simp only [errX_none, errX_some])) | ((with_reducible refine gate_callee (f := 35) rfl ?_); refine goesL_ (some 29) rfl rfl Tryd.func35 (by kernel_rfl) rfl #[.string t181] rfl (by (try simp only [List.map_toArray, List.map_cons, List.map_nil]); first | done | rfl | (simp only [List.length_drop, List.length_take]; rfl)) ?_; (with_reducible refine (fastjson_skipWS.calls k1 t181 t184 _ A13.out).mono ?_); rintro e w' ⟨rfl, ⟨nd, rfl⟩⟩; refine ⟨_, rfl, ?_⟩) | ((with_reducible refine gate_callee (f := 37) rfl ?_); refine goesL_ (some 34) rfl rfl Tryd.func37 (by kernel_rfl) rfl #[.string (⟨#[117, 110, 101, 120, 112, 101, 99, 116, 101, 100, 32, 101, 110, 100, 32, 111, 102, 32, 97, 114, 114, 97, 121]⟩ : ByteArray)] rfl (by (try simp only [List.map_toArray, List.map_cons, List.map_nil]); first | done | rfl | (simp only [List.length_drop, List.length_take]; rfl)) ?_; (with_reducible refine (errors_New.calls (⟨#[117, 110, 101, 120, 112, 101, 99, 116, 101, 100, 32, 101, 110, 100, 32, 111, 102, 32, 97, 114, 114, 97, 121]⟩ : ByteArray) t185 _ A15.out).mono ?_); rintro e w17 ⟨evt185, rfl, hb⟩; refine ⟨_, rfl, ?_⟩; have n0_ := Aside0.mk (below_step (by repeat (first | (with_reducible first | exact HB.out | apply below_alloc | apply pw_below_drewN | apply below_drew1) | exact HB.out)) hb); clear HB; have HB := n0_; clear n0_; (try clear hb); (try clear hb2); (try clear hk); (try clear hi); (try simp only [errX_none, errX_some])))
        go_ret2
        first | exact ⟨evt185, by first | rfl | (simp [errX_none, errX_some] <;> rfl) | (simp [*, errX_none, errX_some] <;> rfl), by repeat (first | (with_reducible first | exact HB.out | apply below_alloc | apply pw_below_drewN | apply below_drew1) | exact HB.out)⟩ | exact ⟨⟨(evt185).1, (evt185).2, by first | rfl | (simp [errX_none, errX_some] <;> rfl) | (simp [*, errX_none, errX_some] <;> rfl)⟩, by repeat (first | (with_reducible first | exact HB.out | apply below_alloc | apply pw_below_drewN | apply below_drew1) | exact HB.out)⟩
       ·
        rw [if_neg c14] at H
        have c14b0 : ((t184.size : Int) == 0) = false := beq_eq_false_iff_ne.mpr c14
        have c14b1 : ((t184.size : Int) != 0) = true := bne_iff_ne.mpr c14
        by_cases c18 : 0 < (t184.size : Int)
        ·
         rw [if_pos c18] at H
         have c18b0 : decide (0 < (t184.size : Int)) = true := decide_eq_true c18
         have c18b1 : decide (0 < t184.size) = true := decide_eq_true (by omega)
         clear c18
         by_cases c20 : (bt t184 0) = 44
         ·
          rw [if_pos c20] at H
          have c20b0 : ((bt t184 0) == 44) = true := beq_iff_eq.mpr c20
          have c20b1 : ((bt t184 0) != 44) = false := bne_eq_false_iff_eq.mpr c20
          clear c20
          by_cases c21 : 1 ≤ (t184.size : Int)
          ·
           rw [if_pos c21] at H
           have c21b0 := eq_true c21
           have c21b1 : decide (1 ≤ (t184.size : Int)) = true := decide_eq_true c21
           clear c21
           obtain ⟨js22, hjs22⟩ : ∃ j_ : ByteArray, (t184.extract 1 t184.size) = j_ := ⟨_, rfl⟩
           skip
           replace H : (fastjson_validateArray.l0 k1 js22) = some (r1, r2) := by first | (rw [hjs22] at H; exact H) | (simp only [hjs22] at H ⊢; exact H)
           have H' := Aside0.mk H
           clear H
           go_wp2_with (first | ((with_reducible refine gate_callee (f := 35) rfl ?_); refine goesL_ (some 18) rfl rfl Tryd.func35 (by kernel_rfl) rfl #[.string x0_1] rfl (by (try simp only [List.map_toArray, List.map_cons, List.map_nil]); first | done | rfl | (simp only [List.length_drop, List.length_take]; rfl)) ?_; (with_reducible refine (fastjson_skipWS.calls k1 x0_1 t180 _ A11.out).mono ?_); rintro e w' ⟨rfl, ⟨nd, rfl⟩⟩; refine ⟨_, rfl, ?_⟩) | ((with_reducible refine gate_callee (f := 36) rfl ?_); refine goesL_ (some 21) rfl rfl Tryd.func36 (by kernel_rfl) rfl #[.string t180] rfl (by (try simp only [List.map_toArray, List.map_cons, List.map_nil]); first | done | rfl | (simp only [List.length_drop, List.length_take]; rfl)) ?_; (with_reducible refine (ih_fastjson_validateValue k1 (by have := HK1.out; omega) t180 t181 none _ A12.out (HG.out.below (by repeat (first | (with_reducible first | exact HB.out | apply below_alloc | apply pw_below_drewN | apply below_drew1) | exact HB.out)))).mono ?_); rintro e w23 ⟨evz_, rfl, hb⟩; refine ⟨_, rfl, ?_⟩; have n0_ := Aside0.mk (below_step (by repeat (first | (with_reducible first | exact HB.out | apply below_alloc | apply pw_below_drewN | apply below_drew1) | exact HB.out)) hb); clear HB; have HB := n0_; clear n0_; (try clear hb); (try clear hb2); (try clear hk); (try clear hi); (try simp only [errX_none, errX_some])) | ((with_reducible refine gate_callee (f := 35) rfl ?_); refine goesL_ (some 29) rfl rfl Tryd.func35 (by kernel_rfl) rfl #[.string t181] rfl (by (try simp only [List.map_toArray, List.map_cons, List.map_nil]); first | done | rfl | (simp only [List.length_drop, List.length_take]; rfl)) ?_; (with_reducible refine (fastjson_skipWS.calls k1 t181 t184 _ A13.out).mono ?_); rintro e w' ⟨rfl, ⟨nd, rfl⟩⟩; refine ⟨_, rfl, ?_⟩; have p19 : 0 ≤ (0 : Int) := (by omega); have q19 : 0 < t184.size := (by have : (0 : Int) < (t184.size : Int) := of_decide_eq_true (by first | (with_reducible assumption) | assumption); omega); have hx19 := bt_lit t184 0 0 rfl; clear p19; have qi19 : (0 < (t184.size : Int)) = True := eq_true (of_decide_eq_true (by first | (with_reducible assumption) | assumption)); replace q19 := eq_true q19))
           go_roundg k1
           case measure => have := HK1.out; omega
           case rel => exact ⟨(js22), (by first | rfl | (simp; done) | (simp only [← hjs22] <;> (first | rfl | simp); done) | (simp [nil_ne_, nil_eq_]; done) | (simp [*]; done)), (by first | exact H' | (rw [hjs22]; exact H') | (simp only [hjs22]; exact H') | (simp only [hjs22] at H' ⊢; exact H')), ⟨by have := HK1.out; omega⟩, ⟨by repeat (first | (with_reducible first | exact HB.out | apply below_alloc | apply pw_below_drewN | apply below_drew1) | exact HB.out)⟩⟩
          ·
           rw [if_neg c21] at H
           exact absurd H (by simp)
         ·
          rw [if_neg c20] at H
          have c20b0 : ((bt t184 0) == 44) = false := beq_eq_false_iff_ne.mpr c20
          have c20b1 : ((bt t184 0) != 44) = true := bne_iff_ne.mpr c20
          by_cases c25 : (bt t184 0) = 93
          ·
           rw [if_pos c25] at H
           have c25b0 : ((bt t184 0) == 93) = true := beq_iff_eq.mpr c25
           have c25b1 : ((bt t184 0) != 93) = false := bne_eq_false_iff_eq.mpr c25
           clear c25
           by_cases c26 : 1 ≤ (t184.size : Int)
           ·
            rw [if_pos c26] at H
            have c26b0 := eq_true c26
            have c26b1 : decide (1 ≤ (t184.size : Int)) = true := decide_eq_true c26
            clear c26
            obtain ⟨js27, hjs27⟩ : ∃ j_ : ByteArray, (t184.extract 1 t184.size) = j_ := ⟨_, rfl⟩
            skip
            replace H : (some (js27, none)) = some (r1, r2) := by first | (rw [hjs27] at H; exact H) | (simp only [hjs27] at H ⊢; exact H)
            simp only [Option.some.injEq, Prod.mk.injEq] at H
            obtain ⟨rfl, rfl⟩ := H
            go_wp2_with (first | ((with_reducible refine gate_callee (f := 35) rfl ?_); refine goesL_ (some 18) rfl rfl Tryd.func35 (by kernel_rfl) rfl #[.string x0_1] rfl (by (try simp only [List.map_toArray, List.map_cons, List.map_nil]); first | done | rfl | (simp only [List.length_drop, List.length_take]; rfl)) ?_; (with_reducible refine (fastjson_skipWS.calls k1 x0_1 t180 _ A11.out).mono ?_); rintro e w' ⟨rfl, ⟨nd, rfl⟩⟩; refine ⟨_, rfl, ?_⟩) | ((with_reducible refine gate_callee (f := 36) rfl ?_); refine goesL_ (some 21) rfl rfl Tryd.func36 (by kernel_rfl) rfl #[.string t180] rfl (by (try simp only [List.map_toArray, List.map_cons, List.map_nil]); first | done | rfl | (simp only [List.length_drop, List.length_take]; rfl)) ?_; (with_reducible refine (ih_fastjson_validateValue k1 (by have := HK1.out; omega) t180 t181 none _ A12.out (HG.out.below (by repeat (first | (with_reducible first | exact HB.out | apply below_alloc | apply pw_below_drewN | apply below_drew1) | exact HB.out)))).mono ?_); rintro e w28 ⟨evz_, rfl, hb⟩; refine ⟨_, rfl, ?_⟩; have n0_ := Aside0.mk (below_step (by repeat (first | (with_reducible first | exact HB.out | apply below_alloc | apply pw_below_drewN | apply below_drew1) | exact HB.out)) hb); clear HB; have HB := n0_; clear n0_; (try clear hb); (try clear hb2); (try clear hk); (try clear hi); (try simp only [errX_none, errX_some])) | ((with_reducible refine gate_callee (f := 35) rfl ?_); refine goesL_ (some 29) rfl rfl Tryd.func35 (by kernel_rfl) rfl #[.string t181] rfl (by (try simp only [List.map_toArray, List.map_cons, List.map_nil]); first | done | rfl | (simp only [List.length_drop, List.length_take]; rfl)) ?_; (with_reducible refine (fastjson_skipWS.calls k1 t181 t184 _ A13.out).mono ?_); rintro e w' ⟨rfl, ⟨nd, rfl⟩⟩; refine ⟨_, rfl, ?_⟩; have p19 : 0 ≤ (0 : Int) := (by omega); have q19 : 0 < t184.size := (by have : (0 : Int) < (t184.size : Int) := of_decide_eq_true (by first | (with_reducible assumption) | assumption); omega); have hx19 := bt_lit t184 0 0 rfl; clear p19; have qi19 : (0 < (t184.size : Int)) = True := eq_true (of_decide_eq_true (by first | (with_reducible assumption) | assumption)); replace q19 := eq_true q19; have p24 : 0 ≤ (0 : Int) := (by omega); have q24 : 0 < t184.size := (by have : (0 : Int) < (t184.size : Int) := of_decide_eq_true (by first | (with_reducible assumption) | assumption); omega); have hx24 := bt_lit t184 0 0 rfl; clear p24; have qi24 : (0 < (t184.size : Int)) = True := eq_true (of_decide_eq_true (by first | (with_reducible assumption) | assumption)); replace q24 := eq_true q24))
            go_ret2
            first | exact ⟨(0, Value.nilIface), by first | rfl | (simp [errX_none, errX_some] <;> rfl) | (simp only [← hjs27]; first | rfl | (simp [errX_none, errX_some] <;> rfl)) | (simp [*, errX_none, errX_some] <;> rfl), by repeat (first | (with_reducible first | exact HB.out | apply below_alloc | apply pw_below_drewN | apply below_drew1) | exact HB.out)⟩ | exact ⟨⟨((0, Value.nilIface)).1, ((0, Value.nilIface)).2, by first | rfl | (simp [errX_none, errX_some] <;> rfl) | (simp only [← hjs27]; first | rfl | (simp [errX_none, errX_some] <;> rfl)) | (simp [*, errX_none, errX_some] <;> rfl)⟩, by repeat (first | (with_reducible first | exact HB.out | apply below_alloc | apply pw_below_drewN | apply below_drew1) | exact HB.out)⟩
           ·
            rw [if_neg c26] at H
            exact absurd H (by simp)
          ·
           rw [if_neg c25] at H
           have c25b0 : ((bt t184 0) == 93) = false := beq_eq_false_iff_ne.mpr c25
           have c25b1 : ((bt t184 0) != 93) = true := bne_iff_ne.mpr c25
           replace H := Option.bind_eq_some_iff.mp H
           obtain ⟨t186, A290, H⟩ := H
           replace H : (some (t184, t186)) = some (r1, r2) := H
           have A29 := Aside0.mk A290
           clear A290
           simp only [Option.some.injEq, Prod.mk.injEq] at H
           obtain ⟨rfl, rfl⟩ := H
           go_wp2_with (first | ((with_reducible refine gate_callee (f := 35) rfl ?_); refine goesL_ (some 18) rfl rfl Tryd.func35 (by kernel_rfl) rfl #[.string x0_1] rfl (by (try simp only [List.map_toArray, List.map_cons, List.map_nil]); first | done | rfl | (simp only [List.length_drop, List.length_take]; rfl)) ?_; (with_reducible refine (fastjson_skipWS.calls k1 x0_1 t180 _ A11.out).mono ?_); rintro e w' ⟨rfl, ⟨nd, rfl⟩⟩; refine ⟨_, rfl, ?_⟩) | ((with_reducible refine gate_callee (f := 36) rfl ?_); refine goesL_ (some 21) rfl rfl Tryd.func36 (by kernel_rfl) rfl #[.string t180] rfl (by (try simp only [List.map_toArray, List.map_cons, List.map_nil]); first | done | rfl | (simp only [List.length_drop, List.length_take]; rfl)) ?_; (with_reducible refine (ih_fastjson_validateValue k1 (by have := HK1.out; omega) t180 t181 none _ A12.out (HG.out.below (by repeat (first | (with_reducible first | exact HB.out | apply below_alloc | apply pw_below_drewN | apply below_drew1) | exact HB.out)))).mono ?_); rintro e w30 ⟨evz_, rfl, hb⟩; refine ⟨_, rfl, ?_⟩; have n0_ := Aside0.mk (below_step (by repeat (first | (with_reducible first | exact HB.out | apply below_alloc | apply pw_below_drewN | apply below_drew1) | exact HB.out)) hb); clear HB; have HB := n0_; clear n0_; (try clear hb); (try clear hb2); (try clear hk); (try clear hi); (try simp only [errX_none, errX_some])) | ((with_reducible refine gate_callee (f := 35) rfl ?_); refine goesL_ (some 29) rfl rfl Tryd.func35 (by kernel_rfl) rfl #[.string t181] rfl (by (try simp only [List.map_toArray, List.map_cons, List.map_nil]); first | done | rfl | (simp only [List.length_drop, List.length_take]; rfl)) ?_; (with_reducible refine (fastjson_skipWS.calls k1 t181 t184 _ A13.out).mono ?_); rintro e w' ⟨rfl, ⟨nd, rfl⟩⟩; refine ⟨_, rfl, ?_⟩; have p19 : 0 ≤ (0 : Int) := (by omega); have q19 : 0 < t184.size := (by have : (0 : Int) < (t184.size : Int) := of_decide_eq_true (by first | (with_reducible assumption) | assumption); omega); have hx19 := bt_lit t184 0 0 rfl; clear p19; have qi19 : (0 < (t184.size : Int)) = True := eq_true (of_decide_eq_true (by first | (with_reducible assumption) | assumption)); replace q19 := eq_true q19; have p24 : 0 ≤ (0 : Int) := (by omega); have q24 : 0 < t184.size := (by have : (0 : Int) < (t184.size : Int) := of_decide_eq_true (by first | (with_reducible assumption) | assumption); omega); have hx24 := bt_lit t184 0 0 rfl; clear p24; have qi24 : (0 < (t184.size : Int)) = True := eq_true (of_decide_eq_true (by first | (with_reducible assumption) | assumption)); replace q24 := eq_true q24) | ((with_reducible refine gate_callee (f := 37) rfl ?_); refine goesL_ (some 47) rfl rfl Tryd.func37 (by kernel_rfl) rfl #[.string (⟨#[109, 105, 115, 115, 105, 110, 103, 32, 39, 44, 39, 32, 97, 102, 116, 101, 114, 32, 97, 114, 114, 97, 121, 32, 118, 97, 108, 117, 101]⟩ : ByteArray)] rfl (by (try simp only [List.map_toArray, List.map_cons, List.map_nil]); first | done | rfl | (simp only [List.length_drop, List.length_take]; rfl)) ?_; (with_reducible refine (errors_New.calls (⟨#[109, 105, 115, 115, 105, 110, 103, 32, 39, 44, 39, 32, 97, 102, 116, 101, 114, 32, 97, 114, 114, 97, 121, 32, 118, 97, 108, 117, 101]⟩ : ByteArray) t186 _ A29.out).mono ?_); rintro e w31 ⟨evt186, rfl, hb⟩; refine ⟨_, rfl, ?_⟩; have n0_ := Aside0.mk (below_step (by repeat (first | (with_reducible first | exact HB.out | apply below_alloc | apply pw_below_drewN | apply below_drew1) | exact HB.out)) hb); clear HB; have HB := n0_; clear n0_; (try clear hb); (try clear hb2); (try clear hk); (try clear hi); (try simp only [errX_none, errX_some])))
           go_ret2
           first | exact ⟨evt186, by first | rfl | (simp [errX_none, errX_some] <;> rfl) | (simp [*, errX_none, errX_some] <;> rfl), by repeat (first | (with_reducible first | exact HB.out | apply below_alloc | apply pw_below_drewN | apply below_drew1) | exact HB.out)⟩ | exact ⟨⟨(evt186).1, (evt186).2, by first | rfl | (simp [errX_none, errX_some] <;> rfl) | (simp [*, errX_none, errX_some] <;> rfl)⟩, by repeat (first | (with_reducible first | exact HB.out | apply below_alloc | apply pw_below_drewN | apply below_drew1) | exact HB.out)⟩
        ·
         rw [if_neg c18] at H
         exact absurd H (by simp)
      ·
       have H1 : ((errors_New.f (⟨#[99, 97, 110, 110, 111, 116, 32, 112, 97, 114, 115, 101, 32, 97, 114, 114, 97, 121, 32, 118, 97, 108, 117, 101]⟩ : ByteArray)).bind fun t187 => (some (t181, t187))) = some (r1, r2) := by rw [if_neg (show ¬ (some q183).isNone = true by simp)] at H; exact H
       clear H
       have H := H1
       clear H1
       try simp only [errX_none, errX_some]
       replace H := Option.bind_eq_some_iff.mp H
       obtain ⟨t187, A320, H⟩ := H
       replace H : (some (t181, t187)) = some (r1, r2) := H
       have A32 := Aside0.mk A320
       clear A320
       simp only [Option.some.injEq, Prod.mk.injEq] at H
       obtain ⟨rfl, rfl⟩ := H
       go_wp2_with (first | ((with_reducible refine gate_callee (f := 35) rfl ?_); refine goesL_ (some 18) rfl rfl Tryd.func35 (by kernel_rfl) rfl #[.string x0_1] rfl (by (try simp only [List.map_toArray, List.map_cons, List.map_nil]); first | done | rfl | (simp only [List.length_drop, List.length_take]; rfl)) ?_; (with_reducible refine (fastjson_skipWS.calls k1 x0_1 t180 _ A11.out).mono ?_); rintro e w' ⟨rfl, ⟨nd, rfl⟩⟩; refine ⟨_, rfl, ?_⟩) | ((with_reducible refine gate_callee (f := 36) rfl ?_); refine goesL_ (some 21) rfl rfl Tryd.func36 (by kernel_rfl) rfl #[.string t180] rfl (by (try simp only [List.map_toArray, List.map_cons, List.map_nil]); first | done | rfl | (simp only [List.length_drop, List.length_take]; rfl)) ?_; (with_reducible refine (ih_fastjson_validateValue k1 (by have := HK1.out; omega) t180 t181 (some q183) _ A12.out (HG.out.below (by repeat (first | (with_reducible first | exact HB.out | apply below_alloc | apply pw_below_drewN | apply below_drew1) | exact HB.out)))).mono ?_); rintro e w33 ⟨evt182, rfl, hb⟩; refine ⟨_, rfl, ?_⟩; have n0_ := Aside0.mk (below_step (by repeat (first | (with_reducible first | exact HB.out | apply below_alloc | apply pw_below_drewN | apply below_drew1) | exact HB.out)) hb); clear HB; have HB := n0_; clear n0_; (try clear hb); (try clear hb2); (try clear hk); (try clear hi); (try simp only [errX_none, errX_some])) | ((with_reducible refine gate_callee (f := 37) rfl ?_); refine goesL_ (some 27) rfl rfl Tryd.func37 (by kernel_rfl) rfl #[.string (⟨#[99, 97, 110, 110, 111, 116, 32, 112, 97, 114, 115, 101, 32, 97, 114, 114, 97, 121, 32, 118, 97, 108, 117, 101]⟩ : ByteArray)] rfl (by (try simp only [List.map_toArray, List.map_cons, List.map_nil]); first | done | rfl | (simp only [List.length_drop, List.length_take]; rfl)) ?_; (with_reducible refine (errors_New.calls (⟨#[99, 97, 110, 110, 111, 116, 32, 112, 97, 114, 115, 101, 32, 97, 114, 114, 97, 121, 32, 118, 97, 108, 117, 101]⟩ : ByteArray) t187 _ A32.out).mono ?_); rintro e w34 ⟨evt187, rfl, hb⟩; refine ⟨_, rfl, ?_⟩; have n0_ := Aside0.mk (below_step (by repeat (first | (with_reducible first | exact HB.out | apply below_alloc | apply pw_below_drewN | apply below_drew1) | exact HB.out)) hb); clear HB; have HB := n0_; clear n0_; (try clear hb); (try clear hb2); (try clear hk); (try clear hi); (try simp only [errX_none, errX_some])))
       go_ret2
       first | exact ⟨evt187, by first | rfl | (simp [errX_none, errX_some] <;> rfl) | (simp [*, errX_none, errX_some] <;> rfl), by repeat (first | (with_reducible first | exact HB.out | apply below_alloc | apply pw_below_drewN | apply below_drew1) | exact HB.out)⟩ | exact ⟨⟨(evt187).1, (evt187).2, by first | rfl | (simp [errX_none, errX_some] <;> rfl) | (simp [*, errX_none, errX_some] <;> rfl)⟩, by repeat (first | (with_reducible first | exact HB.out | apply below_alloc | apply pw_below_drewN | apply below_drew1) | exact HB.out)⟩
  ·
   rw [if_neg c6] at H
   exact absurd H (by simp)

theorem fastjson_validateObject.calls_g (k : Nat) : fastjson_validateObject.CallsP k ∧ fastjson_validateValue.CallsP k ∧ fastjson_validateArray.CallsP k := by
  induction k using Nat.strongRecOn with
  | _ k ih =>
  exact ⟨fastjson_validateObject.calls_ k (fun m_ h_ => (ih m_ h_).1) (fun m_ h_ => (ih m_ h_).2.1) (fun m_ h_ => (ih m_ h_).2.2), fastjson_validateValue.calls_ k (fun m_ h_ => (ih m_ h_).1) (fun m_ h_ => (ih m_ h_).2.1) (fun m_ h_ => (ih m_ h_).2.2), fastjson_validateArray.calls_ k (fun m_ h_ => (ih m_ h_).1) (fun m_ h_ => (ih m_ h_).2.1) (fun m_ h_ => (ih m_ h_).2.2)⟩
theorem fastjson_validateObject.calls (k : Nat) : ∀ (a0 : ByteArray) (r1 : ByteArray) (r2 : Option Int) (w : World) (h : fastjson_validateObject.f k a0 = some (r1, r2)) (hG : Glob w),
    Calls Tryd.prog 34 #[.string a0] w fun e w' => ∃ evr2 : TypeId × Value, e = .returned (.tuple #[.string r1, errX r2 evr2]) ∧ Below w.heap.size w w' := (fastjson_validateObject.calls_g k).1
theorem fastjson_validateValue.calls (k : Nat) : ∀ (a0 : ByteArray) (r1 : ByteArray) (r2 : Option Int) (w : World) (h : fastjson_validateValue.f k a0 = some (r1, r2)) (hG : Glob w),
    Calls Tryd.prog 36 #[.string a0] w fun e w' => ∃ evr2 : TypeId × Value, e = .returned (.tuple #[.string r1, errX r2 evr2]) ∧ Below w.heap.size w w' := (fastjson_validateObject.calls_g k).2.1
theorem fastjson_validateArray.calls (k : Nat) : ∀ (a0 : ByteArray) (r1 : ByteArray) (r2 : Option Int) (w : World) (h : fastjson_validateArray.f k a0 = some (r1, r2)) (hG : Glob w),
    Calls Tryd.prog 55 #[.string a0] w fun e w' => ∃ evr2 : TypeId × Value, e = .returned (.tuple #[.string r1, errX r2 evr2]) ∧ Below w.heap.size w w' := (fastjson_validateObject.calls_g k).2.2

/-! ### fastjson_Validate: function 21 -/
def fastjson_Validate.f (k : Nat) (a0 : ByteArray) : Option (Option Int) := (fastjson_skipWS.f k a0).bind fun t188 => ((fastjson_validateValue.f k t188).bind fun bt189 => (if bt189.2.isNone = true then ((fastjson_skipWS.f k bt189.1).bind fun t192 => (if (t192.size : Int) > 0 then ((errors_New.f (⟨#[117, 110, 101, 120, 112, 101, 99, 116, 101, 100, 32, 116, 97, 105, 108]⟩ : ByteArray)).bind fun t193 => (some t193)) else (some none))) else ((errors_New.f (⟨#[99, 97, 110, 110, 111, 116, 32, 112, 97, 114, 115, 101, 32, 74, 83, 79, 78]⟩ : ByteArray)).bind fun t194 => (some t194))))
theorem fastjson_Validate.mono : ∀ a0 k, LeO (fastjson_Validate.f k a0) (fastjson_Validate.f (k + 1) a0) := by
  intro a0 k
  unfold fastjson_Validate.f
  repeat' first
      | (with_reducible exact fastjson_skipWS.mono _ _)
      | (with_reducible exact fastjson_validateValue.mono _ _)
      | (with_reducible exact LeO.refl _)
      | (with_reducible exact LeO.none _)
      | (with_reducible refine LeO.ite ?_ ?_)
      | (with_reducible refine LeO.bind ?_ (fun _ => ?_))
      | exact fastjson_skipWS.mono _ _
      | exact fastjson_validateValue.mono _ _
      | exact LeO.none _
      | refine LeO.ite ?_ ?_
      | refine LeO.bind ?_ (fun _ => ?_)
set_option maxHeartbeats 8000000 in
set_option maxRecDepth 100000 in
theorem fastjson_Validate.calls (k : Nat) (a0 : ByteArray) (r : Option Int) (w : World) (h : fastjson_Validate.f k a0 = some r) (hG : Glob w) :
    Calls Tryd.prog 21 #[.string a0] w fun e w' => ∃ evr : TypeId × Value, e = .returned (errX r evr) ∧ Below w.heap.size w w' := by
 have hu43 := Tryd.underlying43
 have HB := Aside0.mk (Below.refl w.heap.size w)
 have HG := Aside0.mk hG
 clear hG
 have H : ((fastjson_skipWS.f k a0).bind fun t188 => ((fastjson_validateValue.f k t188).bind fun bt189 => (if bt189.2.isNone = true then ((fastjson_skipWS.f k bt189.1).bind fun t192 => (if (t192.size : Int) > 0 then ((errors_New.f (⟨#[117, 110, 101, 120, 112, 101, 99, 116, 101, 100, 32, 116, 97, 105, 108]⟩ : ByteArray)).bind fun t193 => (some t193)) else (some none))) else ((errors_New.f (⟨#[99, 97, 110, 110, 111, 116, 32, 112, 97, 114, 115, 101, 32, 74, 83, 79, 78]⟩ : ByteArray)).bind fun t194 => (some t194))))) = some r := h
 clear h
 replace H := Option.bind_eq_some_iff.mp H
 obtain ⟨t188, A20, H⟩ := H
 replace H : ((fastjson_validateValue.f k t188).bind fun bt189 => (if bt189.2.isNone = true then ((fastjson_skipWS.f k bt189.1).bind fun t192 => (if (t192.size : Int) > 0 then ((errors_New.f (⟨#[117, 110, 101, 120, 112, 101, 99, 116, 101, 100, 32, 116, 97, 105, 108]⟩ : ByteArray)).bind fun t193 => (some t193)) else (some none))) else ((errors_New.f (⟨#[99, 97, 110, 110, 111, 116, 32, 112, 97, 114, 115, 101, 32, 74, 83, 79, 78]⟩ : ByteArray)).bind fun t194 => (some t194)))) = some r := H
 have A2 := Aside0.mk A20
 clear A20
 replace H := Option.bind_eq_some_iff.mp H
 obtain ⟨⟨t189, t190⟩, A30, H⟩ := H
 replace H : (if t190.isNone = true then ((fastjson_skipWS.f k t189).bind fun t192 => (if (t192.size : Int) > 0 then ((errors_New.f (⟨#[117, 110, 101, 120, 112, 101, 99, 116, 101, 100, 32, 116, 97, 105, 108]⟩ : ByteArray)).bind fun t193 => (some t193)) else (some none))) else ((errors_New.f (⟨#[99, 97, 110, 110, 111, 116, 32, 112, 97, 114, 115, 101, 32, 74, 83, 79, 78]⟩ : ByteArray)).bind fun t194 => (some t194))) = some r := H
 have A3 := Aside0.mk A30
 clear A30
 rcases t190 with _ | q191
 ·
  have H1 : ((fastjson_skipWS.f k t189).bind fun t192 => (if (t192.size : Int) > 0 then ((errors_New.f (⟨#[117, 110, 101, 120, 112, 101, 99, 116, 101, 100, 32, 116, 97, 105, 108]⟩ : ByteArray)).bind fun t193 => (some t193)) else (some none))) = some r := by rw [if_pos (show (none : Option Int).isNone = true by rfl)] at H; exact H
  clear H
  have H := H1
  clear H1
  try simp only [errX_none, errX_some]
  replace H := Option.bind_eq_some_iff.mp H
  obtain ⟨t192, A40, H⟩ := H
  replace H : (if (t192.size : Int) > 0 then ((errors_New.f (⟨#[117, 110, 101, 120, 112, 101, 99, 116, 101, 100, 32, 116, 97, 105, 108]⟩ : ByteArray)).bind fun t193 => (some t193)) else (some none)) = some r := H
  have A4 := Aside0.mk A40
  clear A40
  by_cases c5 : (t192.size : Int) > 0
  ·
   rw [if_pos c5] at H
   have c5b0 : decide (0 < (t192.size : Int)) = true := decide_eq_true c5
   have c5b1 : decide (0 < t192.size) = true := decide_eq_true (by omega)
   clear c5
   replace H := Option.bind_eq_some_iff.mp H
   obtain ⟨t193, A60, H⟩ := H
   replace H : (some t193) = some r := H
   have A6 := Aside0.mk A60
   clear A60
   obtain rfl := Option.some.inj H
   go_enter Tryd.func21, Tryd.ntmps21
   go_wp2_with (first | ((with_reducible refine gate_callee (f := 35) rfl ?_); refine goesL_ (some 6) rfl rfl Tryd.func35 (by kernel_rfl) rfl #[.string a0] rfl (by (try simp only [List.map_toArray, List.map_cons, List.map_nil]); first | done | rfl | (simp only [List.length_drop, List.length_take]; rfl)) ?_; (with_reducible refine (fastjson_skipWS.calls k a0 t188 _ A2.out).mono ?_); rintro e w' ⟨rfl, ⟨nd, rfl⟩⟩; refine ⟨_, rfl, ?_⟩) | ((with_reducible refine gate_callee (f := 36) rfl ?_); refine goesL_ (some 9) rfl rfl Tryd.func36 (by kernel_rfl) rfl #[.string t188] rfl (by (try simp only [List.map_toArray, List.map_cons, List.map_nil]); first | done | rfl | (simp only [List.length_drop, List.length_take]; rfl)) ?_; (with_reducible refine (fastjson_validateValue.calls k t188 t189 none _ A3.out (HG.out.below (by repeat (first | (with_reducible first | exact HB.out | apply below_alloc | apply pw_below_drewN | apply below_drew1) | exact HB.out)))).mono ?_); rintro e w7 ⟨evz_, rfl, hb⟩; refine ⟨_, rfl, ?_⟩; have n0_ := Aside0.mk (below_step (by repeat (first | (with_reducible first | exact HB.out | apply below_alloc | apply pw_below_drewN | apply below_drew1) | exact HB.out)) hb); clear HB; have HB := n0_; clear n0_; (try clear hb); (try clear hb2); (try clear hk); (try clear hi); (try simp only [errX_none, errX_some])) | ((with_reducible refine gate_callee (f := 35) rfl ?_); refine goesL_ (some 16) rfl rfl Tryd.func35 (by kernel_rfl) rfl #[.string t189] rfl (by (try simp only [List.map_toArray, List.map_cons, List.map_nil]); first | done | rfl | (simp only [List.length_drop, List.length_take]; rfl)) ?_; (with_reducible refine (fastjson_skipWS.calls k t189 t192 _ A4.out).mono ?_); rintro e w' ⟨rfl, ⟨nd, rfl⟩⟩; refine ⟨_, rfl, ?_⟩) | ((with_reducible refine gate_callee (f := 37) rfl ?_); refine goesL_ (some 20) rfl rfl Tryd.func37 (by kernel_rfl) rfl #[.string (⟨#[117, 110, 101, 120, 112, 101, 99, 116, 101, 100, 32, 116, 97, 105, 108]⟩ : ByteArray)] rfl (by (try simp only [List.map_toArray, List.map_cons, List.map_nil]); first | done | rfl | (simp only [List.length_drop, List.length_take]; rfl)) ?_; (with_reducible refine (errors_New.calls (⟨#[117, 110, 101, 120, 112, 101, 99, 116, 101, 100, 32, 116, 97, 105, 108]⟩ : ByteArray) t193 _ A6.out).mono ?_); rintro e w8 ⟨evt193, rfl, hb⟩; refine ⟨_, rfl, ?_⟩; have n0_ := Aside0.mk (below_step (by repeat (first | (with_reducible first | exact HB.out | apply below_alloc | apply pw_below_drewN | apply below_drew1) | exact HB.out)) hb); clear HB; have HB := n0_; clear n0_; (try clear hb); (try clear hb2); (try clear hk); (try clear hi); (try simp only [errX_none, errX_some])))
   go_ret
   first | exact ⟨evt193, by first | rfl | (simp [errX_none, errX_some] <;> rfl) | (simp [*, errX_none, errX_some] <;> rfl), by repeat (first | (with_reducible first | exact HB.out | apply below_alloc | apply pw_below_drewN | apply below_drew1) | exact HB.out)⟩ | exact ⟨⟨(evt193).1, (evt193).2, by first | rfl | (simp [errX_none, errX_some] <;> rfl) | (simp [*, errX_none, errX_some] <;> rfl)⟩, by repeat (first | (with_reducible first | exact HB.out | apply below_alloc | apply pw_below_drewN | apply below_drew1) | exact HB.out)⟩
  ·
   rw [if_neg c5] at H
   have c5b0 : decide (0 < (t192.size : Int)) = false := decide_eq_false c5
   have c5b1 : decide (0 < t192.size) = false := decide_eq_false (by omega)
   clear c5
   obtain rfl := Option.some.inj H
   go_enter Tryd.func21, Tryd.ntmps21
   go_wp2_with (first | ((with_reducible refine gate_callee (f := 35) rfl ?_); refine goesL_ (some 6) rfl rfl Tryd.func35 (by kernel_rfl) rfl #[.string a0] rfl (by (try simp only [List.map_toArray, List.map_cons, List.map_nil]); first | done | rfl | (simp only [List.length_drop, List.length_take]; rfl)) ?_; (with_reducible refine (fastjson_skipWS.calls k a0 t188 _ A2.out).mono ?_); rintro e w' ⟨rfl, ⟨nd, rfl⟩⟩; refine ⟨_, rfl, ?_⟩) | ((with_reducible refine gate_callee (f := 36) rfl ?_); refine goesL_ (some 9) rfl rfl Tryd.func36 (by kernel_rfl) rfl #[.string t188] rfl (by (try simp only [List.map_toArray, List.map_cons, List.map_nil]); first | done | rfl | (simp only [List.length_drop, List.length_take]; rfl)) ?_; (with_reducible refine (fastjson_validateValue.calls k t188 t189 none _ A3.out (HG.out.below (by repeat (first | (with_reducible first | exact HB.out | apply below_alloc | apply pw_below_drewN | apply below_drew1) | exact HB.out)))).mono ?_); rintro e w9 ⟨evz_, rfl, hb⟩; refine ⟨_, rfl, ?_⟩; have n0_ := Aside0.mk (below_step (by repeat (first | (with_reducible first | exact HB.out | apply below_alloc | apply pw_below_drewN | apply below_drew1) | exact HB.out)) hb); clear HB; have HB := n0_; clear n0_; (try clear hb); (try clear hb2); (try clear hk); (try clear hi); (try simp only [errX_none, errX_some])) | ((with_reducible refine gate_callee (f := 35) rfl ?_); refine goesL_ (some 16) rfl rfl Tryd.func35 (by kernel_rfl) rfl #[.string t189] rfl (by (try simp only [List.map_toArray, List.map_cons, List.map_nil]); first | done | rfl | (simp only [List.length_drop, List.length_take]; rfl)) ?_; (with_reducible refine (fastjson_skipWS.calls k t189 t192 _ A4.out).mono ?_); rintro e w' ⟨rfl, ⟨nd, rfl⟩⟩; refine ⟨_, rfl, ?_⟩))
   go_ret
   first | exact ⟨(0, Value.nilIface), by first | rfl | (simp [errX_none, errX_some] <;> rfl) | (simp [*, errX_none, errX_some] <;> rfl), by repeat (first | (with_reducible first | exact HB.out | apply below_alloc | apply pw_below_drewN | apply below_drew1) | exact HB.out)⟩ | exact ⟨⟨((0, Value.nilIface)).1, ((0, Value.nilIface)).2, by first | rfl | (simp [errX_none, errX_some] <;> rfl) | (simp [*, errX_none, errX_some] <;> rfl)⟩, by repeat (first | (with_reducible first | exact HB.out | apply below_alloc | apply pw_below_drewN | apply below_drew1) | exact HB.out)⟩
 ·
  have H1 : ((errors_New.f (⟨#[99, 97, 110, 110, 111, 116, 32, 112, 97, 114, 115, 101, 32, 74, 83, 79, 78]⟩ : ByteArray)).bind fun t194 => (some t194)) = some r := by rw [if_neg (show ¬ (some q191).isNone = true by simp)] at H; exact H
  clear H
  have H := H1
  clear H1
  try simp only [errX_none, errX_some]
  replace H := Option.bind_eq_some_iff.mp H
  obtain ⟨t194, A100, H⟩ := H
  replace H : (some t194) = some r := H
  have A10 := Aside0.mk A100
  clear A100
  obtain rfl := Option.some.inj H
  go_enter Tryd.func21, Tryd.ntmps21
  go_wp2_with (first | ((with_reducible refine gate_callee (f := 35) rfl ?_); refine goesL_ (some 6) rfl rfl Tryd.func35 (by kernel_rfl) rfl #[.string a0] rfl (by (try simp only [List.map_toArray, List.map_cons, List.map_nil]); first | done | rfl | (simp only [List.length_drop, List.length_take]; rfl)) ?_; (with_reducible refine (fastjson_skipWS.calls k a0 t188 _ A2.out).mono ?_); rintro e w' ⟨rfl, ⟨nd, rfl⟩⟩; refine ⟨_, rfl, ?_⟩) | ((with_reducible refine gate_callee (f := 36) rfl ?_); refine goesL_ (some 9) rfl rfl Tryd.func36 (by kernel_rfl) rfl #[.string t188] rfl (by (try simp only [List.map_toArray, List.map_cons, List.map_nil]); first | done | rfl | (simp only [List.length_drop, List.length_take]; rfl)) ?_; (with_reducible refine (fastjson_validateValue.calls k t188 t189 (some q191) _ A3.out (HG.out.below (by repeat (first | (with_reducible first | exact HB.out | apply below_alloc | apply pw_below_drewN | apply below_drew1) | exact HB.out)))).mono ?_); rintro e w11 ⟨evt190, rfl, hb⟩; refine ⟨_, rfl, ?_⟩; have n0_ := Aside0.mk (below_step (by repeat (first | (with_reducible first | exact HB.out | apply below_alloc | apply pw_below_drewN | apply below_drew1) | exact HB.out)) hb); clear HB; have HB := n0_; clear n0_; (try clear hb); (try clear hb2); (try clear hk); (try clear hi); (try simp only [errX_none, errX_some])) | ((with_reducible refine gate_callee (f := 37) rfl ?_); refine goesL_ (some 14) rfl rfl Tryd.func37 (by kernel_rfl) rfl #[.string (⟨#[99, 97, 110, 110, 111, 116, 32, 112, 97, 114, 115, 101, 32, 74, 83, 79, 78]⟩ : ByteArray)] rfl (by (try simp only [List.map_toArray, List.map_cons, List.map_nil]); first | done | rfl | (simp only [List.length_drop, List.length_take]; rfl)) ?_; (with_reducible refine (errors_New.calls (⟨#[99, 97, 110, 110, 111, 116, 32, 112, 97, 114, 115, 101, 32, 74, 83, 79, 78]⟩ : ByteArray) t194 _ A10.out).mono ?_); rintro e w12 ⟨evt194, rfl, hb⟩; refine ⟨_, rfl, ?_⟩; have n0_ := Aside0.mk (below_step (by repeat (first | (with_reducible first | exact HB.out | apply below_alloc | apply pw_below_drewN | apply below_drew1) | exact HB.out)) hb); clear HB; have HB := n0_; clear n0_; (try clear hb); (try clear hb2); (try clear hk); (try clear hi); (try simp only [errX_none, errX_some])))
  go_ret
  first | exact ⟨evt194, by first | rfl | (simp [errX_none, errX_some] <;> rfl) | (simp [*, errX_none, errX_some] <;> rfl), by repeat (first | (with_reducible first | exact HB.out | apply below_alloc | apply pw_below_drewN | apply below_drew1) | exact HB.out)⟩ | exact ⟨⟨(evt194).1, (evt194).2, by first | rfl | (simp [errX_none, errX_some] <;> rfl) | (simp [*, errX_none, errX_some] <;> rfl)⟩, by repeat (first | (with_reducible first | exact HB.out | apply below_alloc | apply pw_below_drewN | apply below_drew1) | exact HB.out)⟩

/-! ### impl_FjValid: function 10 -/
def impl_FjValid.f (k : Nat) (a0 : ByteArray) : Option (Bool) := (fastjson_Validate.f k a0).bind fun t195 => (if t195.isNone = true then (some true) else (some false))
theorem impl_FjValid.mono : ∀ a0 k, LeO (impl_FjValid.f k a0) (impl_FjValid.f (k + 1) a0) := by
  intro a0 k
  unfold impl_FjValid.f
  repeat' first
      | (with_reducible exact fastjson_Validate.mono _ _)
      | (with_reducible exact LeO.refl _)
      | (with_reducible exact LeO.none _)
      | (with_reducible refine LeO.ite ?_ ?_)
      | (with_reducible refine LeO.bind ?_ (fun _ => ?_))
      | exact fastjson_Validate.mono _ _
      | exact LeO.none _
      | refine LeO.ite ?_ ?_
      | refine LeO.bind ?_ (fun _ => ?_)
set_option maxHeartbeats 8000000 in
set_option maxRecDepth 100000 in
theorem impl_FjValid.calls (k : Nat) (a0 : ByteArray) (r : Bool) (w : World) (h : impl_FjValid.f k a0 = some r) (hG : Glob w) :
    Calls Tryd.prog 10 #[.string a0] w fun e w' => e = .returned (.bool r) ∧ Below w.heap.size w w' := by
 have hu43 := Tryd.underlying43
 have HB := Aside0.mk (Below.refl w.heap.size w)
 have HG := Aside0.mk hG
 clear hG
 have H : ((fastjson_Validate.f k a0).bind fun t195 => (if t195.isNone = true then (some true) else (some false))) = some r := h
 clear h
 replace H := Option.bind_eq_some_iff.mp H
 obtain ⟨t195, A20, H⟩ := H
 replace H : (if t195.isNone = true then (some true) else (some false)) = some r := H
 have A2 := Aside0.mk A20
 clear A20
 rcases t195 with _ | q196
 ·
  have H1 : (some true) = some r := by rw [if_pos (show (none : Option Int).isNone = true by rfl)] at H; exact H
  clear H
  have H := H1
  clear H1
  try simp only [errX_none, errX_some]
  obtain rfl := Option.some.inj H
  go_enter Tryd.func10, Tryd.ntmps10
  go_wp2_with (first | ((with_reducible refine gate_callee (f := 21) rfl ?_); refine goesL_ (some 4) rfl rfl Tryd.func21 (by kernel_rfl) rfl #[.string a0] rfl (by (try simp only [List.map_toArray, List.map_cons, List.map_nil]); first | done | rfl | (simp only [List.length_drop, List.length_take]; rfl)) ?_; (with_reducible refine (fastjson_Validate.calls k a0 none _ A2.out (HG.out.below (by repeat (first | (with_reducible first | exact HB.out | apply below_alloc | apply pw_below_drewN | apply below_drew1) | exact HB.out)))).mono ?_); rintro e w3 ⟨evz_, rfl, hb⟩; refine ⟨_, rfl, ?_⟩; have n0_ := Aside0.mk (below_step (by repeat (first | (with_reducible first | exact HB.out | apply below_alloc | apply pw_below_drewN | apply below_drew1) | exact HB.out)) hb); clear HB; have HB := n0_; clear n0_; (try clear hb); (try clear hb2); (try clear hk); (try clear hi); (try simp only [errX_none, errX_some])))
  go_ret
  exact ⟨by first | rfl | (simp [errX_none, errX_some] <;> rfl) | (simp [*, errX_none, errX_some] <;> rfl), by repeat (first | (with_reducible first | exact HB.out | apply below_alloc | apply pw_below_drewN | apply below_drew1) | exact HB.out)⟩
 ·
  have H1 : (some false) = some r := by rw [if_neg (show ¬ (some q196).isNone = true by simp)] at H; exact H
  clear H
  have H := H1
  clear H1
  try simp only [errX_none, errX_some]
  obtain rfl := Option.some.inj H
  go_enter Tryd.func10, Tryd.ntmps10
  go_wp2_with (first | ((with_reducible refine gate_callee (f := 21) rfl ?_); refine goesL_ (some 4) rfl rfl Tryd.func21 (by kernel_rfl) rfl #[.string a0] rfl (by (try simp only [List.map_toArray, List.map_cons, List.map_nil]); first | done | rfl | (simp only [List.length_drop, List.length_take]; rfl)) ?_; (with_reducible refine (fastjson_Validate.calls k a0 (some q196) _ A2.out (HG.out.below (by repeat (first | (with_reducible first | exact HB.out | apply below_alloc | apply pw_below_drewN | apply below_drew1) | exact HB.out)))).mono ?_); rintro e w4 ⟨evt195, rfl, hb⟩; refine ⟨_, rfl, ?_⟩; have n0_ := Aside0.mk (below_step (by repeat (first | (with_reducible first | exact HB.out | apply below_alloc | apply pw_below_drewN | apply below_drew1) | exact HB.out)) hb); clear HB; have HB := n0_; clear n0_; (try clear hb); (try clear hb2); (try clear hk); (try clear hi); (try simp only [errX_none, errX_some])))
  go_ret
  exact ⟨by first | rfl | (simp [errX_none, errX_some] <;> rfl) | (simp [*, errX_none, errX_some] <;> rfl), by repeat (first | (with_reducible first | exact HB.out | apply below_alloc | apply pw_below_drewN | apply below_drew1) | exact HB.out)⟩

/-! ### fastjson_b2s: function 38 -/
def fastjson_b2s.f (l0 : List Int) : Option (ByteArray) := some (strOfNums l0)
set_option maxHeartbeats 8000000 in
set_option maxRecDepth 100000 in
theorem fastjson_b2s.calls (A0 : Option Addr) (c0 : Nat) (l0 : List Int) (r : ByteArray) (w : World) (hr0 : Kd.C (Kd.int .u8) w A0 l0.length l0) (hc0 : l0.length ≤ c0) (h : fastjson_b2s.f l0 = some r) :
    Calls Tryd.prog 38 #[.slice A0 l0.length c0] w fun e w' => e = .returned (.string r) ∧ Drawn0 w w' := by
 have HR0 := Aside0.mk hr0
 have HC0 := Aside0.mk hc0
 clear hr0 hc0
 have H : (some (strOfNums l0)) = some r := h
 clear h
 obtain rfl := Option.some.inj H
 have hcv2 := Kd.C_string (P := Tryd.prog) (A := A0) (c := c0) Tryd.underlying48 Tryd.underlying5 Tryd.underlying9 HR0.out
 go_enter Tryd.func38, Tryd.ntmps38
 go_wp2
 go_ret
 exact ⟨by first | rfl | (simp; done) | (simp [nil_ne_, nil_eq_]; done) | (simp [*]; done), by repeat (first | exact Drawn0.refl _ | apply Drawn0.step)⟩

/-! ### fastjson_ValidateBytes: function 22 -/
def fastjson_ValidateBytes.f (k : Nat) (l0 : List Int) : Option (Option Int) := (fastjson_b2s.f l0).bind fun t197 => ((fastjson_Validate.f k t197).bind fun t198 => (some t198))
theorem fastjson_ValidateBytes.mono : ∀ a0 k, LeO (fastjson_ValidateBytes.f k a0) (fastjson_ValidateBytes.f (k + 1) a0) := by
  intro a0 k
  unfold fastjson_ValidateBytes.f
  repeat' first
      | (with_reducible exact fastjson_Validate.mono _ _)
      | (with_reducible exact LeO.refl _)
      | (with_reducible exact LeO.none _)
      | (with_reducible refine LeO.ite ?_ ?_)
      | (with_reducible refine LeO.bind ?_ (fun _ => ?_))
      | exact fastjson_Validate.mono _ _
      | exact LeO.none _
      | refine LeO.ite ?_ ?_
      | refine LeO.bind ?_ (fun _ => ?_)
set_option maxHeartbeats 8000000 in
set_option maxRecDepth 100000 in
theorem fastjson_ValidateBytes.calls (k : Nat) (A0 : Option Addr) (c0 : Nat) (l0 : List Int) (r : Option Int) (w : World) (hr0 : Kd.C (Kd.int .u8) w A0 l0.length l0) (hc0 : l0.length ≤ c0) (h : fastjson_ValidateBytes.f k l0 = some r) (hG : Glob w) :
    Calls Tryd.prog 22 #[.slice A0 l0.length c0] w fun e w' => ∃ evr : TypeId × Value, e = .returned (errX r evr) ∧ Below w.heap.size w w' := by
 have HR0 := Aside0.mk hr0
 have HC0 := Aside0.mk hc0
 clear hr0 hc0
 have HB := Aside0.mk (Below.refl w.heap.size w)
 have HG := Aside0.mk hG
 clear hG
 have H : ((fastjson_b2s.f l0).bind fun t197 => ((fastjson_Validate.f k t197).bind fun t198 => (some t198))) = some r := h
 clear h
 replace H := Option.bind_eq_some_iff.mp H
 obtain ⟨t197, A20, H⟩ := H
 replace H : ((fastjson_Validate.f k t197).bind fun t198 => (some t198)) = some r := H
 have A2 := Aside0.mk A20
 clear A20
 replace H := Option.bind_eq_some_iff.mp H
 obtain ⟨t198, A30, H⟩ := H
 replace H : (some t198) = some r := H
 have A3 := Aside0.mk A30
 clear A30
 obtain rfl := Option.some.inj H
 go_enter Tryd.func22, Tryd.ntmps22
 go_wp2_with (first | ((with_reducible refine gate_callee (f := 38) rfl ?_); refine goesL_ (some 4) rfl rfl Tryd.func38 (by kernel_rfl) rfl #[.slice A0 l0.length c0] rfl (by (try simp only [List.map_toArray, List.map_cons, List.map_nil]); first | done | rfl | (simp only [List.length_drop, List.length_take]; rfl)) ?_; (with_reducible refine (fastjson_b2s.calls _ _ l0 t197 _ ?side1 ?side2 A2.out).mono ?_); (case side1 => repeat (first | exact HR0.out | (with_reducible refine Kd.C_alloc ?_ _) | (with_reducible refine Kd.C_drewN ?_ _) | (with_reducible refine Kd.C_drew ?_))); (case side2 => exact HC0.out); rintro e w' ⟨rfl, ⟨nd, rfl⟩⟩; refine ⟨_, rfl, ?_⟩) | ((with_reducible refine gate_callee (f := 21) rfl ?_); refine goesL_ (some 5) rfl rfl Tryd.func21 (by kernel_rfl) rfl #[.string t197] rfl (by (try simp only [List.map_toArray, List.map_cons, List.map_nil]); first | done | rfl | (simp only [List.length_drop, List.length_take]; rfl)) ?_; (with_reducible refine (fastjson_Validate.calls k t197 t198 _ A3.out (HG.out.below (by repeat (first | (with_reducible first | exact HB.out | apply below_alloc | apply pw_below_drewN | apply below_drew1) | exact HB.out)))).mono ?_); rintro e w4 ⟨evt198, rfl, hb⟩; refine ⟨_, rfl, ?_⟩; have n0_ := Aside0.mk (below_step (by repeat (first | (with_reducible first | exact HB.out | apply below_alloc | apply pw_below_drewN | apply below_drew1) | exact HB.out)) hb); clear HB; have HB := n0_; clear n0_; (try clear hb); (try clear hb2); (try clear hk); (try clear hi); (try simp only [errX_none, errX_some])))
 go_ret
 first | exact ⟨evt198, by first | rfl | (simp [errX_none, errX_some] <;> rfl) | (simp [*, errX_none, errX_some] <;> rfl), by repeat (first | (with_reducible first | exact HB.out | apply below_alloc | apply pw_below_drewN | apply below_drew1) | exact HB.out)⟩ | exact ⟨⟨(evt198).1, (evt198).2, by first | rfl | (simp [errX_none, errX_some] <;> rfl) | (simp [*, errX_none, errX_some] <;> rfl)⟩, by repeat (first | (with_reducible first | exact HB.out | apply below_alloc | apply pw_below_drewN | apply below_drew1) | exact HB.out)⟩

/-! ### impl_FjValidBytes: function 11 -/
def impl_FjValidBytes.f (k : Nat) (a0 : ByteArray) : Option (Bool) := if a0.size ≤ 140737488355328 then ((fastjson_ValidateBytes.f k (bytesOf a0)).bind fun t202 => (if t202.isNone = true then (some true) else (some false))) else (none)
theorem impl_FjValidBytes.mono : ∀ a0 k, LeO (impl_FjValidBytes.f k a0) (impl_FjValidBytes.f (k + 1) a0) := by
  intro a0 k
  unfold impl_FjValidBytes.f
  repeat' first
      | (with_reducible exact fastjson_ValidateBytes.mono _ _)
      | (with_reducible exact LeO.refl _)
      | (with_reducible exact LeO.none _)
      | (with_reducible refine LeO.ite ?_ ?_)
      | (with_reducible refine LeO.bind ?_ (fun _ => ?_))
      | exact fastjson_ValidateBytes.mono _ _
      | exact LeO.none _
      | refine LeO.ite ?_ ?_
      | refine LeO.bind ?_ (fun _ => ?_)
set_option maxHeartbeats 8000000 in
set_option maxRecDepth 100000 in
theorem impl_FjValidBytes.calls (k : Nat) (a0 : ByteArray) (r : Bool) (w : World) (h : impl_FjValidBytes.f k a0 = some r) (hG : Glob w) :
    Calls Tryd.prog 11 #[.string a0] w fun e w' => e = .returned (.bool r) ∧ Below w.heap.size w w' := by
 have hu43 := Tryd.underlying43
 have HB := Aside0.mk (Below.refl w.heap.size w)
 have HG := Aside0.mk hG
 clear hG
 have H : (if a0.size ≤ 140737488355328 then ((fastjson_ValidateBytes.f k (bytesOf a0)).bind fun t202 => (if t202.isNone = true then (some true) else (some false))) else (none)) = some r := h
 clear h
 by_cases c2 : a0.size ≤ 140737488355328
 ·
  rw [if_pos c2] at H
  have c2b0 := eq_true c2
  have c2b1 : decide (a0.size ≤ 140737488355328) = true := decide_eq_true c2
  clear c2
  obtain ⟨y199, hy199⟩ : ∃ y_ : List Int, y_ = (bytesOf a0) := ⟨_, rfl⟩
  replace H : ((fastjson_ValidateBytes.f k y199).bind fun t202 => (if t202.isNone = true then (some true) else (some false))) = some r := by first | (rw [hy199]; with_reducible exact H) | (have H2_ := (Option.bind_some _ _).symm.trans H; rw [hy199]; with_reducible exact H2_) | (have H2_ := (Option.bind_some _ _).symm.trans H; with_reducible exact H2_) | with_reducible exact H | (rw [hy199]; exact H) | exact H
  have Ny199 := Aside0.mk hy199
  clear hy199
  replace H := Option.bind_eq_some_iff.mp H
  obtain ⟨t202, A30, H⟩ := H
  replace H : (if t202.isNone = true then (some true) else (some false)) = some r := H
  have A3 := Aside0.mk A30
  clear A30
  rcases t202 with _ | q203
  ·
   have H1 : (some true) = some r := by rw [if_pos (show (none : Option Int).isNone = true by rfl)] at H; exact H
   clear H
   have H := H1
   clear H1
   try simp only [errX_none, errX_some]
   obtain rfl := Option.some.inj H
   go_enter Tryd.func11, Tryd.ntmps11
   go_wp2_with (first | ((with_reducible refine gate_dst (N := 4) rfl ?_); refine Kd.V_bytes _ 5 rfl (N := 4) rfl 9 48 _ rfl a0 rfl Tryd.underlying9 Tryd.underlying48 Tryd.underlying5 (ok := fun k_ => w.heap.size ≤ k_) (Nat.le_refl _) (Nat.le_trans (of_decide_eq_true (by first | (with_reducible assumption) | assumption) : a0.size ≤ 140737488355328) (by omega)) (Below.refl _ _) (Nat.le_refl _) ?_; intro v200 w4 ho5 hb hg_ hnew_; clear hg_ hnew_; (first | rw [← Ny199.out] at ho5 | (simp only [Int.reduceToNat] at ho5; rw [← Ny199.out] at ho5)); have n0_ := Aside0.mk (Kd.V_lower (Kd.V_mono (ok' := fun k_ => True) ho5 (fun k_ hk_ => trivial)) (below_size (by repeat (first | (with_reducible first | exact HB.out | apply below_alloc | apply pw_below_drewN | apply below_drew1) | exact HB.out)))); have n1_ := Aside0.mk (below_step (by repeat (first | (with_reducible first | exact HB.out | apply below_alloc | apply pw_below_drewN | apply below_drew1) | exact HB.out)) hb); clear HB; have HO201 := n0_; have HB := n1_; clear n0_ n1_; clear hb ho5; obtain ⟨Ao6, co6, eo6⟩ := Kd.V_slice HO201.out; subst eo6) | ((with_reducible refine gate_callee (f := 22) rfl ?_); refine goesL_ (some 5) rfl rfl Tryd.func22 (by kernel_rfl) rfl #[.slice Ao6 y199.length co6] rfl (by (try simp only [List.map_toArray, List.map_cons, List.map_nil]); first | done | rfl | (simp only [List.length_drop, List.length_take]; rfl)) ?_; (with_reducible refine (fastjson_ValidateBytes.calls k _ _ y199 none _ ?side1 ?side2 A3.out (HG.out.below (by repeat (first | (with_reducible first | exact HB.out | apply below_alloc | apply pw_below_drewN | apply below_drew1) | exact HB.out)))).mono ?_); (case side1 => repeat (first | exact (Kd.V_reads' HO201.out).2.2 | (with_reducible refine Kd.C_alloc ?_ _) | (with_reducible refine Kd.C_drewN ?_ _) | (with_reducible refine Kd.C_drew ?_))); (case side2 => exact (Kd.V_reads' HO201.out).2.1); rintro e w7 ⟨evz_, rfl, hb⟩; refine ⟨_, rfl, ?_⟩; have n0_ := Aside0.mk (Kd.V_below (by (with_reducible repeat (first | apply Kd.V_alloc | apply Kd.V_drewN | apply Kd.V_drew)); exact HO201.out) hb); have n1_ := Aside0.mk (below_step (by repeat (first | (with_reducible first | exact HB.out | apply below_alloc | apply pw_below_drewN | apply below_drew1) | exact HB.out)) hb); clear HO201; clear HB; have HO201 := n0_; have HB := n1_; clear n0_ n1_; (try clear hb); (try clear hb2); (try clear hk); (try clear hi); (try simp only [errX_none, errX_some])))
   go_ret
   exact ⟨by first | rfl | (simp [errX_none, errX_some] <;> rfl) | (simp [*, errX_none, errX_some] <;> rfl), by repeat (first | (with_reducible first | exact HB.out | apply below_alloc | apply pw_below_drewN | apply below_drew1) | exact HB.out)⟩
  ·
   have H1 : (some false) = some r := by rw [if_neg (show ¬ (some q203).isNone = true by simp)] at H; exact H
   clear H
   have H := H1
   clear H1
   try simp only [errX_none, errX_some]
   obtain rfl := Option.some.inj H
   go_enter Tryd.func11, Tryd.ntmps11
   go_wp2_with (first | ((with_reducible refine gate_dst (N := 4) rfl ?_); refine Kd.V_bytes _ 5 rfl (N := 4) rfl 9 48 _ rfl a0 rfl Tryd.underlying9 Tryd.underlying48 Tryd.underlying5 (ok := fun k_ => w.heap.size ≤ k_) (Nat.le_refl _) (Nat.le_trans (of_decide_eq_true (by first | (with_reducible assumption) | assumption) : a0.size ≤ 140737488355328) (by omega)) (Below.refl _ _) (Nat.le_refl _) ?_; intro v200 w8 ho9 hb hg_ hnew_; clear hg_ hnew_; (first | rw [← Ny199.out] at ho9 | (simp only [Int.reduceToNat] at ho9; rw [← Ny199.out] at ho9)); have n0_ := Aside0.mk (Kd.V_lower (Kd.V_mono (ok' := fun k_ => True) ho9 (fun k_ hk_ => trivial)) (below_size (by repeat (first | (with_reducible first | exact HB.out | apply below_alloc | apply pw_below_drewN | apply below_drew1) | exact HB.out)))); have n1_ := Aside0.mk (below_step (by repeat (first | (with_reducible first | exact HB.out | apply below_alloc | apply pw_below_drewN | apply below_drew1) | exact HB.out)) hb); clear HB; have HO201 := n0_; have HB := n1_; clear n0_ n1_; clear hb ho9; obtain ⟨Ao10, co10, eo10⟩ := Kd.V_slice HO201.out; subst eo10) | ((with_reducible refine gate_callee (f := 22) rfl ?_); refine goesL_ (some 5) rfl rfl Tryd.func22 (by kernel_rfl) rfl #[.slice Ao10 y199.length co10] rfl (by (try simp only [List.map_toArray, List.map_cons, List.map_nil]); first | done | rfl | (simp only [List.length_drop, List.length_take]; rfl)) ?_; (with_reducible refine (fastjson_ValidateBytes.calls k _ _ y199 (some q203) _ ?side1 ?side2 A3.out (HG.out.below (by repeat (first | (with_reducible first | exact HB.out | apply below_alloc | apply pw_below_drewN | apply below_drew1) | exact HB.out)))).mono ?_); (case side1 => repeat (first | exact (Kd.V_reads' HO201.out).2.2 | (with_reducible refine Kd.C_alloc ?_ _) | (with_reducible refine Kd.C_drewN ?_ _) | (with_reducible refine Kd.C_drew ?_))); (case side2 => exact (Kd.V_reads' HO201.out).2.1); rintro e w11 ⟨evt202, rfl, hb⟩; refine ⟨_, rfl, ?_⟩; have n0_ := Aside0.mk (Kd.V_below (by (with_reducible repeat (first | apply Kd.V_alloc | apply Kd.V_drewN | apply Kd.V_drew)); exact HO201.out) hb); have n1_ := Aside0.mk (below_step (by repeat (first | (with_reducible first | exact HB.out | apply below_alloc | apply pw_below_drewN | apply below_drew1) | exact HB.out)) hb); clear HO201; clear HB; have HO201 := n0_; have HB := n1_; clear n0_ n1_; (try clear hb); (try clear hb2); (try clear hk); (try clear hi); (try simp only [errX_none, errX_some])))
   go_ret
   exact ⟨by first | rfl | (simp [errX_none, errX_some] <;> rfl) | (simp [*, errX_none, errX_some] <;> rfl), by repeat (first | (with_reducible first | exact HB.out | apply below_alloc | apply pw_below_drewN | apply below_drew1) | exact HB.out)⟩
 ·
  rw [if_neg c2] at H
  exact absurd H (by simp)

/-! ### laws_FnFjValidBytes: function 4 -/
def laws_FnFjValidBytes.f (k : Nat) (a0 : ByteArray) : Option (Bool) := if (a0.size : Int) > 2147483647 then (some true) else (if (a0.size : Int) > 4000 then (some true) else ((impl_FjValid.f k a0).bind fun t204 => ((impl_FjValidBytes.f k a0).bind fun t205 => (if (t204 == t205) = true then ((impl_FjValidBytes.f k (⟨#[91, 93]⟩ : ByteArray)).bind fun t206 => (some t206)) else (some false)))))
theorem laws_FnFjValidBytes.mono : ∀ a0 k, LeO (laws_FnFjValidBytes.f k a0) (laws_FnFjValidBytes.f (k + 1) a0) := by
  intro a0 k
  unfold laws_FnFjValidBytes.f
  repeat' first
      | (with_reducible exact impl_FjValid.mono _ _)
      | (with_reducible exact impl_FjValidBytes.mono _ _)
      | (with_reducible exact LeO.refl _)
      | (with_reducible exact LeO.none _)
      | (with_reducible refine LeO.ite ?_ ?_)
      | (with_reducible refine LeO.bind ?_ (fun _ => ?_))
      | exact impl_FjValid.mono _ _
      | exact impl_FjValidBytes.mono _ _
      | exact LeO.none _
      | refine LeO.ite ?_ ?_
      | refine LeO.bind ?_ (fun _ => ?_)
set_option maxHeartbeats 8000000 in
set_option maxRecDepth 100000 in
theorem laws_FnFjValidBytes.calls (k : Nat) (a0 : ByteArray) (r : Bool) (w : World) (h : laws_FnFjValidBytes.f k a0 = some r) (hG : Glob w) :
    Calls Tryd.prog 4 #[.string a0] w fun e w' => e = .returned (.bool r) ∧ Below w.heap.size w w' := by
 have HB := Aside0.mk (Below.refl w.heap.size w)
 have HG := Aside0.mk hG
 clear hG
 have H : (if (a0.size : Int) > 2147483647 then (some true) else (if (a0.size : Int) > 4000 then (some true) else ((impl_FjValid.f k a0).bind fun t204 => ((impl_FjValidBytes.f k a0).bind fun t205 => (if (t204 == t205) = true then ((impl_FjValidBytes.f k (⟨#[91, 93]⟩ : ByteArray)).bind fun t206 => (some t206)) else (some false)))))) = some r := h
 clear h
 by_cases c2 : (a0.size : Int) > 2147483647
 ·
  rw [if_pos c2] at H
  have c2b0 : decide (2147483647 < (a0.size : Int)) = true := decide_eq_true c2
  have c2b1 : decide (2147483647 < a0.size) = true := decide_eq_true (by omega)
  clear c2
  obtain rfl := Option.some.inj H
  go_enter Tryd.func4, Tryd.ntmps4
  go_wp2
  go_ret
  exact ⟨by first | rfl | (simp [errX_none, errX_some] <;> rfl) | (simp [*, errX_none, errX_some] <;> rfl), by repeat (first | (with_reducible first | exact HB.out | apply below_alloc | apply pw_below_drewN | apply below_drew1) | exact HB.out)⟩
 ·
  rw [if_neg c2] at H
  have c2b0 : decide (2147483647 < (a0.size : Int)) = false := decide_eq_false c2
  have c2b1 : decide (2147483647 < a0.size) = false := decide_eq_false (by omega)
  clear c2
  by_cases c3 : (a0.size : Int) > 4000
  ·
   rw [if_pos c3] at H
   have c3b0 : decide (4000 < (a0.size : Int)) = true := decide_eq_true c3
   have c3b1 : decide (4000 < a0.size) = true := decide_eq_true (by omega)
   clear c3
   obtain rfl := Option.some.inj H
   go_enter Tryd.func4, Tryd.ntmps4
   go_wp2
   go_ret
   exact ⟨by first | rfl | (simp [errX_none, errX_some] <;> rfl) | (simp [*, errX_none, errX_some] <;> rfl), by repeat (first | (with_reducible first | exact HB.out | apply below_alloc | apply pw_below_drewN | apply below_drew1) | exact HB.out)⟩
  ·
   rw [if_neg c3] at H
   have c3b0 : decide (4000 < (a0.size : Int)) = false := decide_eq_false c3
   have c3b1 : decide (4000 < a0.size) = false := decide_eq_false (by omega)
   clear c3
   replace H := Option.bind_eq_some_iff.mp H
   obtain ⟨t204, A40, H⟩ := H
   replace H : ((impl_FjValidBytes.f k a0).bind fun t205 => (if (t204 == t205) = true then ((impl_FjValidBytes.f k (⟨#[91, 93]⟩ : ByteArray)).bind fun t206 => (some t206)) else (some false))) = some r := H
   have A4 := Aside0.mk A40
   clear A40
   replace H := Option.bind_eq_some_iff.mp H
   obtain ⟨t205, A50, H⟩ := H
   replace H : (if (t204 == t205) = true then ((impl_FjValidBytes.f k (⟨#[91, 93]⟩ : ByteArray)).bind fun t206 => (some t206)) else (some false)) = some r := H
   have A5 := Aside0.mk A50
   clear A50
   by_cases c6 : (t204 == t205) = true
   ·
    rw [if_pos c6] at H
    have c6b0 : (t204 == t205) = true := c6
    (try (have c6b1 : decide (t204 = t205) = true := by simpa using c6))
    (try (have c6b2 : (t204 == t205) = true := by simpa using c6))
    clear c6
    replace H := Option.bind_eq_some_iff.mp H
    obtain ⟨t206, A70, H⟩ := H
    replace H : (some t206) = some r := H
    have A7 := Aside0.mk A70
    clear A70
    obtain rfl := Option.some.inj H
    go_enter Tryd.func4, Tryd.ntmps4
    go_wp2_with (first | (go_at_call 10; (with_reducible refine (impl_FjValid.calls k a0 t204 _ A4.out (HG.out.below (by repeat (first | (with_reducible first | exact HB.out | apply below_alloc | apply pw_below_drewN | apply below_drew1) | exact HB.out)))).mono ?_); rintro e w8 ⟨rfl, hb⟩; have n0_ := Aside0.mk (below_step (by repeat (first | (with_reducible first | exact HB.out | apply below_alloc | apply pw_below_drewN | apply below_drew1) | exact HB.out)) hb); clear HB; have HB := n0_; clear n0_; (try clear hb); (try clear hb2); (try clear hk); (try clear hi)) | (go_at_call 11; (with_reducible refine (impl_FjValidBytes.calls k a0 t205 _ A5.out (HG.out.below (by repeat (first | (with_reducible first | exact HB.out | apply below_alloc | apply pw_below_drewN | apply below_drew1) | exact HB.out)))).mono ?_); rintro e w9 ⟨rfl, hb⟩; have n0_ := Aside0.mk (below_step (by repeat (first | (with_reducible first | exact HB.out | apply below_alloc | apply pw_below_drewN | apply below_drew1) | exact HB.out)) hb); clear HB; have HB := n0_; clear n0_; (try clear hb); (try clear hb2); (try clear hk); (try clear hi)) | (go_at_call 11; (with_reducible refine (impl_FjValidBytes.calls k (⟨#[91, 93]⟩ : ByteArray) t206 _ A7.out (HG.out.below (by repeat (first | (with_reducible first | exact HB.out | apply below_alloc | apply pw_below_drewN | apply below_drew1) | exact HB.out)))).mono ?_); rintro e w10 ⟨rfl, hb⟩; have n0_ := Aside0.mk (below_step (by repeat (first | (with_reducible first | exact HB.out | apply below_alloc | apply pw_below_drewN | apply below_drew1) | exact HB.out)) hb); clear HB; have HB := n0_; clear n0_; (try clear hb); (try clear hb2); (try clear hk); (try clear hi)))
    go_ret
    exact ⟨by first | rfl | (simp [errX_none, errX_some] <;> rfl) | (simp [*, errX_none, errX_some] <;> rfl), by repeat (first | (with_reducible first | exact HB.out | apply below_alloc | apply pw_below_drewN | apply below_drew1) | exact HB.out)⟩
   ·
    rw [if_neg c6] at H
    have c6b0 : (t204 == t205) = false := by simpa using c6
    (try (have c6b1 : decide (t204 = t205) = false := by simpa using c6))
    (try (have c6b2 : (t204 == t205) = false := by simpa using c6))
    (try (have c6b3 : ¬ (t204 = t205) := by simpa using c6))
    clear c6
    obtain rfl := Option.some.inj H
    go_enter Tryd.func4, Tryd.ntmps4
    go_wp2_with (first | (go_at_call 10; (with_reducible refine (impl_FjValid.calls k a0 t204 _ A4.out (HG.out.below (by repeat (first | (with_reducible first | exact HB.out | apply below_alloc | apply pw_below_drewN | apply below_drew1) | exact HB.out)))).mono ?_); rintro e w11 ⟨rfl, hb⟩; have n0_ := Aside0.mk (below_step (by repeat (first | (with_reducible first | exact HB.out | apply below_alloc | apply pw_below_drewN | apply below_drew1) | exact HB.out)) hb); clear HB; have HB := n0_; clear n0_; (try clear hb); (try clear hb2); (try clear hk); (try clear hi)) | (go_at_call 11; (with_reducible refine (impl_FjValidBytes.calls k a0 t205 _ A5.out (HG.out.below (by repeat (first | (with_reducible first | exact HB.out | apply below_alloc | apply pw_below_drewN | apply below_drew1) | exact HB.out)))).mono ?_); rintro e w12 ⟨rfl, hb⟩; have n0_ := Aside0.mk (below_step (by repeat (first | (with_reducible first | exact HB.out | apply below_alloc | apply pw_below_drewN | apply below_drew1) | exact HB.out)) hb); clear HB; have HB := n0_; clear n0_; (try clear hb); (try clear hb2); (try clear hk); (try clear hi)))
    go_ret
    exact ⟨by first | rfl | (simp [errX_none, errX_some] <;> rfl) | (simp [*, errX_none, errX_some] <;> rfl), by repeat (first | (with_reducible first | exact HB.out | apply below_alloc | apply pw_below_drewN | apply below_drew1) | exact HB.out)⟩

/-- THE ONE PURE STATEMENT of laws_FnFjValidBytes: yours. -/
def laws_FnFjValidBytes.Pure : Prop := ∀ (a0 : ByteArray), a0.size ≤ 140737488351232 → ∃ k, laws_FnFjValidBytes.f k a0 = some true
theorem laws_FnFjValidBytes.walk (P : laws_FnFjValidBytes.Pure) (a0 : ByteArray) (w : World) (w0 : a0.size ≤ 140737488351232) (hG : Glob w) :
    Calls Tryd.prog 4 #[.string a0] w fun e w' => e = .returned (.bool true) ∧ Below w.heap.size w w' := by
  obtain ⟨k, h⟩ := P a0 w0
  refine (laws_FnFjValidBytes.calls k a0 true w h hG).mono ?_
  rintro e w' ⟨rfl, hd⟩
  exact ⟨rfl, hd⟩

end Go.Proofs.YtdhiihegfdmokaaDoor.PFnFjValidBytes
