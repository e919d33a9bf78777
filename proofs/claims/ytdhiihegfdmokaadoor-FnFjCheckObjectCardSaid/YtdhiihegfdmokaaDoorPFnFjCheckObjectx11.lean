/- what the Go functions that the law FnFjCheckObject reaches compute, each as a plain function, with the proof that the Go code computes just that; no condition beside those that each theorem states. -/
import Derived.Test.YtdhiihegfdmokaaDoorPFnFjCheckObjectx0
import Derived.Test.YtdhiihegfdmokaaDoorPFnFjCheckObjectx6
import Derived.Test.YtdhiihegfdmokaaDoorPFnFjCheckObjectx10
import Derived.Test.YtdhiihegfdmokaaDoorHEFnFjCheckObject
namespace Go.Proofs.YtdhiihegfdmokaaDoor.PFnFjCheckObject
open Go.RowKit Go.Proofs.YtdhiihegfdmokaaDoorW.PrintWords Go.Proofs.YtdhiihegfdmokaaDoorW.PrintLast Go.Proofs.YtdhiihegfdmokaaDoorW.PrintMore
set_option linter.unusedVariables false
set_option linter.unusedSimpArgs false
set_option maxHeartbeats 8000000 in
set_option maxRecDepth 100000 in
theorem fastjson_validateObject.calls_ (k : Nat) (ih_fastjson_validateObject : ∀ m_, m_ < k → fastjson_validateObject.CallsP m_) (ih_fastjson_validateValue : ∀ m_, m_ < k → fastjson_validateValue.CallsP m_) (ih_fastjson_validateArray : ∀ m_, m_ < k → fastjson_validateArray.CallsP m_) : fastjson_validateObject.CallsP k := by
 intro a0 r1 r2 w h hG
 cases k with
  | zero => exact absurd h (by simp [fastjson_validateObject.f])
  | succ k =>
 simp only [fastjson_validateObject.f] at h
 have hu43 := Tryd.underlying43
 have HB := Aside0.mk (Below.refl w.heap.size w)
 have HG := Aside0.mk hG
 clear hG
 have H : ((fastjson_skipWS.f k a0).bind fun t323 => (if (t323.size : Int) = 0 then ((errors_New.f (⟨#[109, 105, 115, 115, 105, 110, 103, 32, 39, 125]⟩ : ByteArray)).bind fun t324 => (some (t323, t324))) else (if 0 < (t323.size : Int) then (if (bt t323 0) = 125 then (if 1 ≤ (t323.size : Int) then (some (t323.extract 1 t323.size, none)) else (none)) else (fastjson_validateObject.l0 k t323)) else (none)))) = some (r1, r2) := h
 clear h
 replace H := Option.bind_eq_some_iff.mp H
 obtain ⟨t323, A20, H⟩ := H
 replace H : (if (t323.size : Int) = 0 then ((errors_New.f (⟨#[109, 105, 115, 115, 105, 110, 103, 32, 39, 125]⟩ : ByteArray)).bind fun t324 => (some (t323, t324))) else (if 0 < (t323.size : Int) then (if (bt t323 0) = 125 then (if 1 ≤ (t323.size : Int) then (some (t323.extract 1 t323.size, none)) else (none)) else (fastjson_validateObject.l0 k t323)) else (none))) = some (r1, r2) := H
 have A2 := Aside0.mk A20
 clear A20
 by_cases c3 : (t323.size : Int) = 0
 ·
  rw [if_pos c3] at H
  have c3b0 : ((t323.size : Int) == 0) = true := beq_iff_eq.mpr c3
  have c3b1 : ((t323.size : Int) != 0) = false := bne_eq_false_iff_eq.mpr c3
  clear c3
  replace H := Option.bind_eq_some_iff.mp H
  obtain ⟨t324, A40, H⟩ := H
  replace H : (some (t323, t324)) = some (r1, r2) := H
  have A4 := Aside0.mk A40
  clear A40
  simp only [Option.some.injEq, Prod.mk.injEq] at H
  obtain ⟨rfl, rfl⟩ := H
  go_enter Tryd.func34, Tryd.ntmps34
  go_wp2_with (first | ((with_reducible refine gate_callee (f := 35) rfl ?_); refine goesL_ (some 8) rfl rfl Tryd.func35 (by kernel_rfl) rfl #[.string a0] rfl (by (try simp only [List.map_toArray, List.map_cons, List.map_nil]); first | done | rfl | (simp only [List.length_drop, List.length_take]; rfl)) ?_; (with_reducible refine (fastjson_skipWS.calls k a0 t323 _ A2.out).mono ?_); rintro e w' ⟨rfl, ⟨nd, rfl⟩⟩; refine ⟨_, rfl, ?_⟩) | ((with_reducible refine gate_callee (f := 37) rfl ?_); refine goesL_ (some 13) rfl rfl Tryd.func37 (by kernel_rfl) rfl #[.string (⟨#[109, 105, 115, 115, 105, 110, 103, 32, 39, 125]⟩ : ByteArray)] rfl (by (try simp only [List.map_toArray, List.map_cons, List.map_nil]); first | done | rfl | (simp only [List.length_drop, List.length_take]; rfl)) ?_; (with_reducible refine (errors_New.calls (⟨#[109, 105, 115, 115, 105, 110, 103, 32, 39, 125]⟩ : ByteArray) t324 _ A4.out).mono ?_); rintro e w5 ⟨evt324, rfl, hb⟩; refine ⟨_, rfl, ?_⟩; have n0_ := Aside0.mk (below_step (by repeat (first | (with_reducible first | exact HB.out | apply below_alloc | apply pw_below_drewN | apply below_drew1) | exact HB.out)) hb); clear HB; have HB := n0_; clear n0_; (try clear hb); (try clear hb2); (try clear hk); (try clear hi); (try simp only [errX_none, errX_some])))
  go_ret2
  first | exact ⟨evt324, by first | rfl | (simp [errX_none, errX_some] <;> rfl) | (simp [*, errX_none, errX_some] <;> rfl), by repeat (first | (with_reducible first | exact HB.out | apply below_alloc | apply pw_below_drewN | apply below_drew1) | exact HB.out)⟩ | exact ⟨⟨(evt324).1, (evt324).2, by first | rfl | (simp [errX_none, errX_some] <;> rfl) | (simp [*, errX_none, errX_some] <;> rfl)⟩, by repeat (first | (with_reducible first | exact HB.out | apply below_alloc | apply pw_below_drewN | apply below_drew1) | exact HB.out)⟩
 rw [if_neg c3] at H
 have c3b0 : ((t323.size : Int) == 0) = false := beq_eq_false_iff_ne.mpr c3
 have c3b1 : ((t323.size : Int) != 0) = true := bne_iff_ne.mpr c3
 by_cases c6 : 0 < (t323.size : Int)
 ·
  rw [if_pos c6] at H
  have c6b0 : decide (0 < (t323.size : Int)) = true := decide_eq_true c6
  have c6b1 : decide (0 < t323.size) = true := decide_eq_true (by omega)
  clear c6
  by_cases c8 : (bt t323 0) = 125
  ·
   rw [if_pos c8] at H
   have c8b0 : ((bt t323 0) == 125) = true := beq_iff_eq.mpr c8
   have c8b1 : ((bt t323 0) != 125) = false := bne_eq_false_iff_eq.mpr c8
   clear c8
   by_cases c9 : 1 ≤ (t323.size : Int)
   ·
    rw [if_pos c9] at H
    have c9b0 := eq_true c9
    have c9b1 : decide (1 ≤ (t323.size : Int)) = true := decide_eq_true c9
    clear c9
    simp only [Option.some.injEq, Prod.mk.injEq] at H
    obtain ⟨rfl, rfl⟩ := H
    go_enter Tryd.func34, Tryd.ntmps34
    go_wp2_with (first | ((with_reducible refine gate_callee (f := 35) rfl ?_); refine goesL_ (some 8) rfl rfl Tryd.func35 (by kernel_rfl) rfl #[.string a0] rfl (by (try simp only [List.map_toArray, List.map_cons, List.map_nil]); first | done | rfl | (simp only [List.length_drop, List.length_take]; rfl)) ?_; (with_reducible refine (fastjson_skipWS.calls k a0 t323 _ A2.out).mono ?_); rintro e w' ⟨rfl, ⟨nd, rfl⟩⟩; refine ⟨_, rfl, ?_⟩; have p7 : 0 ≤ (0 : Int) := (by omega); have q7 : 0 < t323.size := (by have : (0 : Int) < (t323.size : Int) := of_decide_eq_true (by first | (with_reducible assumption) | assumption); omega); have hx7 := bt_lit t323 0 0 rfl; clear p7; have qi7 : (0 < (t323.size : Int)) = True := eq_true (of_decide_eq_true (by first | (with_reducible assumption) | assumption)); replace q7 := eq_true q7))
    go_ret2
    first | exact ⟨(0, Value.nilIface), by first | rfl | (simp [errX_none, errX_some] <;> rfl) | (simp [*, errX_none, errX_some] <;> rfl), by repeat (first | (with_reducible first | exact HB.out | apply below_alloc | apply pw_below_drewN | apply below_drew1) | exact HB.out)⟩ | exact ⟨⟨((0, Value.nilIface)).1, ((0, Value.nilIface)).2, by first | rfl | (simp [errX_none, errX_some] <;> rfl) | (simp [*, errX_none, errX_some] <;> rfl)⟩, by repeat (first | (with_reducible first | exact HB.out | apply below_alloc | apply pw_below_drewN | apply below_drew1) | exact HB.out)⟩
   rw [if_neg c9] at H
   exact absurd H (by simp)
  rw [if_neg c8] at H
  have c8b0 : ((bt t323 0) == 125) = false := beq_eq_false_iff_ne.mpr c8
  have c8b1 : ((bt t323 0) != 125) = true := bne_iff_ne.mpr c8
  have H' := Aside0.mk H
  clear H
  go_enter Tryd.func34, Tryd.ntmps34
  go_wp2_with (first | ((with_reducible refine gate_callee (f := 35) rfl ?_); refine goesL_ (some 8) rfl rfl Tryd.func35 (by kernel_rfl) rfl #[.string a0] rfl (by (try simp only [List.map_toArray, List.map_cons, List.map_nil]); first | done | rfl | (simp only [List.length_drop, List.length_take]; rfl)) ?_; (with_reducible refine (fastjson_skipWS.calls k a0 t323 _ A2.out).mono ?_); rintro e w' ⟨rfl, ⟨nd, rfl⟩⟩; refine ⟨_, rfl, ?_⟩; have p7 : 0 ≤ (0 : Int) := (by omega); have q7 : 0 < t323.size := (by have : (0 : Int) < (t323.size : Int) := of_decide_eq_true (by first | (with_reducible assumption) | assumption); omega); have hx7 := bt_lit t323 0 0 rfl; clear p7; have qi7 : (0 < (t323.size : Int)) = True := eq_true (of_decide_eq_true (by first | (with_reducible assumption) | assumption)); replace q7 := eq_true q7))
  try simp only [Act.put, List.setIfInBounds_toArray, List.set_cons_succ, List.set_cons_zero]
  go_loopg [0] k (fun kq v0 w' => ∃ (x0_1 : ByteArray), v0 = .string x0_1 ∧ Aside0 (fastjson_validateObject.l0 kq x0_1 = some (r1, r2)) ∧ Aside0 (kq ≤ k) ∧ Aside0 (Below w.heap.size w w'))
  case atStart => exact ⟨(t323), (by first | rfl | (simp; done) | (simp [nil_ne_, nil_eq_]; done) | (simp [*]; done)), H', ⟨Nat.le_refl _⟩, ⟨by repeat (first | (with_reducible first | exact HB.out | apply below_alloc | apply pw_below_drewN | apply below_drew1) | exact HB.out)⟩⟩
  case round =>
   clear H'
   try clear p2
   try clear c3
   try clear c3b0
   try clear c3b1
   try clear c6
   try clear c6b0
   try clear c6b1
   try clear p7
   try clear q7
   try clear hx7
   try clear qi7
   try clear c8
   try clear c8b0
   try clear c8b1
   try clear c9
   try clear c9b0
   try clear c9b1
   try clear p7
   try clear q7
   obtain ⟨x0_1, rfl, HA, HK1, HB⟩ := hrel
   rcases gk with _ | k1
   · exact absurd HA.out (by simp [fastjson_validateObject.l0])
   have H := HA.out
   clear HA
   simp only [fastjson_validateObject.l0] at H
   replace H := Option.bind_eq_some_iff.mp H
   obtain ⟨t325, A100, H⟩ := H
   replace H : (if (t325.size : Int) = 0 then (fastjson_validateObject.j1 k1 t325 true) else (if 0 < (t325.size : Int) then (fastjson_validateObject.j1 k1 t325 ((bt t325 0) != 34)) else (none))) = some (r1, r2) := H
   have A10 := Aside0.mk A100
   clear A100
   have HC11 := Aside0.mk H
   clear H
   go_upto_region 8 with (first | ((with_reducible refine gate_callee (f := 35) rfl ?_); refine goesL_ (some 20) rfl rfl Tryd.func35 (by kernel_rfl) rfl #[.string x0_1] rfl (by (try simp only [List.map_toArray, List.map_cons, List.map_nil]); first | done | rfl | (simp only [List.length_drop, List.length_take]; rfl)) ?_; (with_reducible refine (fastjson_skipWS.calls k1 x0_1 t325 _ A10.out).mono ?_); rintro e w' ⟨rfl, ⟨nd, rfl⟩⟩; refine ⟨_, rfl, ?_⟩))
   (try simp only [Act.put, List.setIfInBounds_toArray, List.set_cons_zero, List.set_cons_succ])
   go_cut [28] (fun v28 wc => ∃ (kq : Nat) (x28_10 : Bool), v28 = .bool x28_10 ∧ Aside0 (fastjson_validateObject.j1 kq t325 x28_10 = some (r1, r2)) ∧ Aside0 (kq ≤ k1) ∧ Aside0 (Below w.heap.size w wc))
   case first =>
    have H := HC11.out
    clear HC11
    by_cases c12 : (t325.size : Int) = 0
    ·
     rw [if_pos c12] at H
     have c12b0 : ((t325.size : Int) == 0) = true := beq_iff_eq.mpr c12
     have c12b1 : ((t325.size : Int) != 0) = false := bne_eq_false_iff_eq.mpr c12
     clear c12
     (first | rw [c12b0] | (simp only [i64_w, i32_w]; rw [c12b0]) | rw [c12b1] | skip)
     have H' := Aside0.mk H
     clear H
     go_wp2
     go_meet
     case rel => exact ⟨_, (true), (by first | rfl | (simp; done) | (simp [nil_ne_, nil_eq_]; done) | (simp [*]; done)), H', ⟨by have := HK1.out; first | omega | exact Nat.le_refl _⟩, ⟨by repeat (first | (with_reducible first | exact HB.out | apply below_alloc | apply pw_below_drewN | apply below_drew1) | exact HB.out)⟩⟩
    rw [if_neg c12] at H
    have c12b0 : ((t325.size : Int) == 0) = false := beq_eq_false_iff_ne.mpr c12
    have c12b1 : ((t325.size : Int) != 0) = true := bne_iff_ne.mpr c12
    (first | rw [c12b0] | (simp only [i64_w, i32_w]; rw [c12b0]) | rw [c12b1] | skip)
    by_cases c13 : 0 < (t325.size : Int)
    ·
     rw [if_pos c13] at H
     have c13b0 : decide (0 < (t325.size : Int)) = true := decide_eq_true c13
     have c13b1 : decide (0 < t325.size) = true := decide_eq_true (by omega)
     clear c13
     have H' := Aside0.mk H
     clear H
     have p14 : 0 ≤ (0 : Int) := (by omega)
     have q14 : 0 < t325.size := (by have : (0 : Int) < (t325.size : Int) := of_decide_eq_true (by first | (with_reducible assumption) | assumption); omega)
     have hx14 := bt_lit t325 0 0 rfl
     clear p14
     have qi14 : (0 < (t325.size : Int)) = True := eq_true (of_decide_eq_true (by first | (with_reducible assumption) | assumption))
     replace q14 := eq_true q14
     go_wp2
     go_meet
     case rel => exact ⟨_, (((bt t325 0) != 34)), (by first | rfl | (simp; done) | (simp [nil_ne_, nil_eq_]; done) | (simp [*]; done)), H', ⟨by have := HK1.out; first | omega | exact Nat.le_refl _⟩, ⟨by repeat (first | (with_reducible first | exact HB.out | apply below_alloc | apply pw_below_drewN | apply below_drew1) | exact HB.out)⟩⟩
    rw [if_neg c13] at H
    exact absurd H (by simp)
   clear HC11
   try clear c1
   try clear p1
   try clear q1
   try clear hx1
   try clear qi1
   try clear p2
   try clear c3
   try clear c3b0
   try clear c3b1
   try clear c6
   try clear c6b0
   try clear c6b1
   try clear p7
   try clear q7
   try clear hx7
   try clear qi7
   try clear c8
   try clear c8b0
   try clear c8b1
   try clear c9
   try clear c9b0
   try clear c9b1
   try clear c12
   try clear c12b0
   try clear c12b1
   try clear c13
   try clear c13b0
   try clear c13b1
   try clear p14
   try clear q14
   try clear hx14
   try clear qi14
   try clear p14
   try clear p2
   try clear p7
   try clear q14
   try clear q7
   obtain ⟨kq, x28_10, rfl, HA, HJ10, HB⟩ := hcut
   rcases kq with _ | kj10
   · exact absurd HA.out (by simp [fastjson_validateObject.j1])
   have H := HA.out
   clear HA
   simp only [fastjson_validateObject.j1] at H
   by_cases c15 : x28_10 = true
   ·
    subst c15
    have H1 : ((errors_New.f (⟨#[99, 97, 110, 110, 111, 116, 32, 102, 105, 110, 100, 32, 111, 112, 101, 110, 105, 110, 103, 32, 39, 34, 34, 32, 102, 111, 114, 32, 111, 98, 106, 101, 99, 116, 32, 107, 101, 121]⟩ : ByteArray)).bind fun t326 => (some (t325, t326))) = some (r1, r2) := by rw [if_pos rfl] at H; exact H
    clear H
    have H := H1
    clear H1
    replace H := Option.bind_eq_some_iff.mp H
    obtain ⟨t326, A160, H⟩ := H
    replace H : (some (t325, t326)) = some (r1, r2) := H
    have A16 := Aside0.mk A160
    clear A160
    simp only [Option.some.injEq, Prod.mk.injEq] at H
    obtain ⟨rfl, rfl⟩ := H
    go_wp2_with (first | ((with_reducible refine gate_callee (f := 37) rfl ?_); refine goesL_ (some 30) rfl rfl Tryd.func37 (by kernel_rfl) rfl #[.string (⟨#[99, 97, 110, 110, 111, 116, 32, 102, 105, 110, 100, 32, 111, 112, 101, 110, 105, 110, 103, 32, 39, 34, 34, 32, 102, 111, 114, 32, 111, 98, 106, 101, 99, 116, 32, 107, 101, 121]⟩ : ByteArray)] rfl (by (try simp only [List.map_toArray, List.map_cons, List.map_nil]); first | done | rfl | (simp only [List.length_drop, List.length_take]; rfl)) ?_; (with_reducible refine (errors_New.calls (⟨#[99, 97, 110, 110, 111, 116, 32, 102, 105, 110, 100, 32, 111, 112, 101, 110, 105, 110, 103, 32, 39, 34, 34, 32, 102, 111, 114, 32, 111, 98, 106, 101, 99, 116, 32, 107, 101, 121]⟩ : ByteArray) t326 _ A16.out).mono ?_); rintro e w17 ⟨evt326, rfl, hb⟩; refine ⟨_, rfl, ?_⟩; have n0_ := Aside0.mk (below_step (by repeat (first | (with_reducible first | exact HB.out | apply below_alloc | apply pw_below_drewN | apply below_drew1) | exact HB.out)) hb); clear HB; have HB := n0_; clear n0_; (try clear hb); (try clear hb2); (try clear hk); (try clear hi); (try simp only [errX_none, errX_some])))
    go_ret2
    first | exact ⟨evt326, by first | rfl | (simp [errX_none, errX_some] <;> rfl) | (simp [*, errX_none, errX_some] <;> rfl), by repeat (first | (with_reducible first | exact HB.out | apply below_alloc | apply pw_below_drewN | apply below_drew1) | exact HB.out)⟩ | exact ⟨⟨(evt326).1, (evt326).2, by first | rfl | (simp [errX_none, errX_some] <;> rfl) | (simp [*, errX_none, errX_some] <;> rfl)⟩, by repeat (first | (with_reducible first | exact HB.out | apply below_alloc | apply pw_below_drewN | apply below_drew1) | exact HB.out)⟩
   replace c15 := Bool.eq_false_iff.mpr c15
   subst c15
   have H1 : (if 1 ≤ (t325.size : Int) then ((fastjson_validateKey.f kj10 (t325.extract 1 t325.size)).bind fun bt327 => (if bt327.2.2.isNone = true then (fastjson_validateObject.l1 kj10 bt327.2.1 bt327.1 (bt327.1.size : Int) 0) else ((errors_New.f (⟨#[99, 97, 110, 110, 111, 116, 32, 112, 97, 114, 115, 101, 32, 111, 98, 106, 101, 99, 116, 32, 107, 101, 121]⟩ : ByteArray)).bind fun t342 => (some (bt327.2.1, t342))))) else (none)) = some (r1, r2) := by rw [if_neg (show ¬ (false = true) by decide)] at H; exact H
   clear H
   have H := H1
   clear H1
   by_cases c18 : 1 ≤ (t325.size : Int)
   ·
    rw [if_pos c18] at H
    have c18b0 := eq_true c18
    have c18b1 : decide (1 ≤ (t325.size : Int)) = true := decide_eq_true c18
    clear c18
    replace H := Option.bind_eq_some_iff.mp H
    obtain ⟨⟨t327, t328, t329⟩, A190, H⟩ := H
    replace H : (if t329.isNone = true then (fastjson_validateObject.l1 kj10 t328 t327 (t327.size : Int) 0) else ((errors_New.f (⟨#[99, 97, 110, 110, 111, 116, 32, 112, 97, 114, 115, 101, 32, 111, 98, 106, 101, 99, 116, 32, 107, 101, 121]⟩ : ByteArray)).bind fun t342 => (some (t328, t342)))) = some (r1, r2) := H
    have A19 := Aside0.mk A190
    clear A190
    rcases t329 with _ | q330
    ·
     have H1 : (fastjson_validateObject.l1 kj10 t328 t327 (t327.size : Int) 0) = some (r1, r2) := by rw [if_pos (show (none : Option Int).isNone = true by rfl)] at H; exact H
     clear H
     have H := H1
     clear H1
     try simp only [errX_none, errX_some]
     have H' := Aside0.mk H
     clear H
     go_wp2_with (first | ((with_reducible refine gate_callee (f := 53) rfl ?_); refine goesL_ (some 34) rfl rfl Tryd.func53 (by kernel_rfl) rfl #[.string (t325.extract 1 t325.size)] rfl (by (try simp only [List.map_toArray, List.map_cons, List.map_nil]); first | done | rfl | (simp only [List.length_drop, List.length_take]; rfl)) ?_; (with_reducible refine (fastjson_validateKey.calls kj10 (t325.extract 1 t325.size) t327 t328 none _ A19.out (HG.out.below (by repeat (first | (with_reducible first | exact HB.out | apply below_alloc | apply pw_below_drewN | apply below_drew1) | exact HB.out)))).mono ?_); rintro e w20 ⟨evz_, rfl, hb⟩; refine ⟨_, rfl, ?_⟩; have n0_ := Aside0.mk (below_step (by repeat (first | (with_reducible first | exact HB.out | apply below_alloc | apply pw_below_drewN | apply below_drew1) | exact HB.out)) hb); clear HB; have HB := n0_; clear n0_; (try clear hb); (try clear hb2); (try clear hk); (try clear hi); (try simp only [errX_none, errX_some])))
     try simp only [Act.put, List.setIfInBounds_toArray, List.set_cons_succ, List.set_cons_zero]
     go_loopg [44] kj10 (fun kq v44 w' => ∃ (x44_3 : Int), v44 = .int .i64 x44_3 ∧ Aside0 (fastjson_validateObject.l1 kq t328 t327 (t327.size : Int) x44_3 = some (r1, r2)) ∧ Aside0 (kq ≤ kj10) ∧ Aside0 (Below w.heap.size w w'))
     case atStart => exact ⟨(0), (by first | rfl | (simp; done) | (simp [nil_ne_, nil_eq_]; done) | (simp [*]; done)), H', ⟨Nat.le_refl _⟩, ⟨by repeat (first | (with_reducible first | exact HB.out | apply below_alloc | apply pw_below_drewN | apply below_drew1) | exact HB.out)⟩⟩
     case round =>
      clear H'
      try clear c1
      try clear p1
      try clear q1
      try clear hx1
      try clear qi1
      try clear p2
      try clear c3
      try clear c3b0
      try clear c3b1
      try clear q3
      try clear c5
      try clear c6
      try clear c6b0
      try clear c6b1
      try clear p7
      try clear q7
      try clear hx7
      try clear qi7
      try clear c8
      try clear c8b0
      try clear c8b1
      try clear c9
      try clear c9b0
      try clear c9b1
      try clear c12
      try clear c12b0
      try clear c12b1
      try clear c13
      try clear c13b0
      try clear c13b1
      try clear p14
      try clear q14
      try clear hx14
      try clear qi14
      try clear c15
      try clear c18
      try clear c18b0
      try clear c18b1
      try clear p1
      try clear p14
      try clear p2
      try clear p7
      try clear q1
      try clear q14
      try clear q330
      try clear q7
      obtain ⟨x44_3, rfl, HA, HK3, HB⟩ := hrel
      rcases gk with _ | k3
      · exact absurd HA.out (by simp [fastjson_validateObject.l1])
      have H := HA.out
      clear HA
      simp only [fastjson_validateObject.l1] at H
      by_cases c21 : x44_3 < (t327.size : Int)
      ·
       rw [if_pos c21] at H
       have c21b0 : decide (x44_3 < (t327.size : Int)) = true := decide_eq_true c21
       clear c21
       by_cases c22 : 0 ≤ x44_3
       ·
        rw [if_pos c22] at H
        have c22b0 : decide (0 ≤ x44_3) = true := decide_eq_true c22
        clear c22
        by_cases c23 : x44_3 < (t327.size : Int)
        ·
         rw [if_pos c23] at H
         have c23b0 : decide (x44_3 < (t327.size : Int)) = true := decide_eq_true c23
         clear c23
         by_cases c25 : (bt t327 x44_3) < 32
         ·
          rw [if_pos c25] at H
          have c25b0 : decide ((bt t327 x44_3) < 32) = true := decide_eq_true c25
          clear c25
          replace H := Option.bind_eq_some_iff.mp H
          obtain ⟨t331, A260, H⟩ := H
          replace H : (some (t328, t331)) = some (r1, r2) := H
          have A26 := Aside0.mk A260
          clear A260
          simp only [Option.some.injEq, Prod.mk.injEq] at H
          obtain ⟨rfl, rfl⟩ := H
          have p24 : 0 ≤ (x44_3 : Int) := of_decide_eq_true (by first | (with_reducible assumption) | assumption)
          have q24 : x44_3 < (t327.size : Int) := of_decide_eq_true (by first | (with_reducible assumption) | assumption)
          have hx24 := bt_at t327 x44_3
          replace p24 := eq_true p24
          replace q24 := eq_true q24
          go_wp2_with (first | ((with_reducible refine gate_callee (f := 37) rfl ?_); refine goesL_ (some 52) rfl rfl Tryd.func37 (by kernel_rfl) rfl #[.string (⟨#[111, 98, 106, 101, 99, 116, 32, 107, 101, 121, 32, 99, 97, 110, 110, 111, 116, 32, 99, 111, 110, 116, 97, 105, 110, 32, 99, 111, 110, 116, 114, 111, 108, 32, 99, 104, 97, 114, 32, 48, 120]⟩ : ByteArray)] rfl (by (try simp only [List.map_toArray, List.map_cons, List.map_nil]); first | done | rfl | (simp only [List.length_drop, List.length_take]; rfl)) ?_; (with_reducible refine (errors_New.calls (⟨#[111, 98, 106, 101, 99, 116, 32, 107, 101, 121, 32, 99, 97, 110, 110, 111, 116, 32, 99, 111, 110, 116, 97, 105, 110, 32, 99, 111, 110, 116, 114, 111, 108, 32, 99, 104, 97, 114, 32, 48, 120]⟩ : ByteArray) t331 _ A26.out).mono ?_); rintro e w27 ⟨evt331, rfl, hb⟩; refine ⟨_, rfl, ?_⟩; have n0_ := Aside0.mk (below_step (by repeat (first | (with_reducible first | exact HB.out | apply below_alloc | apply pw_below_drewN | apply below_drew1) | exact HB.out)) hb); clear HB; have HB := n0_; clear n0_; (try clear hb); (try clear hb2); (try clear hk); (try clear hi); (try simp only [errX_none, errX_some])))
          go_ret2
          first | exact ⟨evt331, by first | rfl | (simp [errX_none, errX_some] <;> rfl) | (simp [*, errX_none, errX_some] <;> rfl), by repeat (first | (with_reducible first | exact HB.out | apply below_alloc | apply pw_below_drewN | apply below_drew1) | exact HB.out)⟩ | exact ⟨⟨(evt331).1, (evt331).2, by first | rfl | (simp [errX_none, errX_some] <;> rfl) | (simp [*, errX_none, errX_some] <;> rfl)⟩, by repeat (first | (with_reducible first | exact HB.out | apply below_alloc | apply pw_below_drewN | apply below_drew1) | exact HB.out)⟩
         rw [if_neg c25] at H
         have c25b0 : decide ((bt t327 x44_3) < 32) = false := decide_eq_false c25
         clear c25
         have H' := Aside0.mk H
         clear H
         have p24 : 0 ≤ (x44_3 : Int) := of_decide_eq_true (by first | (with_reducible assumption) | assumption)
         have q24 : x44_3 < (t327.size : Int) := of_decide_eq_true (by first | (with_reducible assumption) | assumption)
         have hx24 := bt_at t327 x44_3
         replace p24 := eq_true p24
         replace q24 := eq_true q24
         go_wp2
         go_roundg k3
         case measure => have := HK1.out; have := HJ10.out; have := HK3.out; omega
         case rel => exact ⟨(wrap64 (x44_3 + 1)), (by first | rfl | (simp; done) | (simp [nil_ne_, nil_eq_]; done) | (simp [*]; done)), H', ⟨by have := HK1.out; have := HJ10.out; have := HK3.out; omega⟩, ⟨by repeat (first | (with_reducible first | exact HB.out | apply below_alloc | apply pw_below_drewN | apply below_drew1) | exact HB.out)⟩⟩
        rw [if_neg c23] at H
        exact absurd H (by simp)
       rw [if_neg c22] at H
       exact absurd H (by simp)
      rw [if_neg c21] at H
      have c21b0 : decide (x44_3 < (t327.size : Int)) = false := decide_eq_false c21
      clear c21
      replace H := Option.bind_eq_some_iff.mp H
      obtain ⟨t332, A280, H⟩ := H
      replace H : (if (t332.size : Int) = 0 then (fastjson_validateObject.j3 k3 t332 true) else (if 0 < (t332.size : Int) then (fastjson_validateObject.j3 k3 t332 ((bt t332 0) != 58)) else (none))) = some (r1, r2) := H
      have A28 := Aside0.mk A280
      clear A280
      have HC29 := Aside0.mk H
      clear H
      go_upto_region 21 with (first | ((with_reducible refine gate_callee (f := 35) rfl ?_); refine goesL_ (some 55) rfl rfl Tryd.func35 (by kernel_rfl) rfl #[.string t328] rfl (by (try simp only [List.map_toArray, List.map_cons, List.map_nil]); first | done | rfl | (simp only [List.length_drop, List.length_take]; rfl)) ?_; (with_reducible refine (fastjson_skipWS.calls k3 t328 t332 _ A28.out).mono ?_); rintro e w' ⟨rfl, ⟨nd, rfl⟩⟩; refine ⟨_, rfl, ?_⟩))
      (try simp only [Act.put, List.setIfInBounds_toArray, List.set_cons_zero, List.set_cons_succ])
      go_cut [63] (fun v63 wc => ∃ (kq : Nat) (x63_28 : Bool), v63 = .bool x63_28 ∧ Aside0 (fastjson_validateObject.j3 kq t332 x63_28 = some (r1, r2)) ∧ Aside0 (kq ≤ k3) ∧ Aside0 (Below w.heap.size w wc))
      case first =>
       have H := HC29.out
       clear HC29
       by_cases c30 : (t332.size : Int) = 0
       ·
        rw [if_pos c30] at H
        have c30b0 : ((t332.size : Int) == 0) = true := beq_iff_eq.mpr c30
        have c30b1 : ((t332.size : Int) != 0) = false := bne_eq_false_iff_eq.mpr c30
        clear c30
        (first | rw [c30b0] | (simp only [i64_w, i32_w]; rw [c30b0]) | rw [c30b1] | skip)
        have H' := Aside0.mk H
        clear H
        go_wp2
        go_meet
        case rel => exact ⟨_, (true), (by first | rfl | (simp; done) | (simp [nil_ne_, nil_eq_]; done) | (simp [*]; done)), H', ⟨by have := HK1.out; have := HJ10.out; have := HK3.out; first | omega | exact Nat.le_refl _⟩, ⟨by repeat (first | (with_reducible first | exact HB.out | apply below_alloc | apply pw_below_drewN | apply below_drew1) | exact HB.out)⟩⟩
       rw [if_neg c30] at H
       have c30b0 : ((t332.size : Int) == 0) = false := beq_eq_false_iff_ne.mpr c30
       have c30b1 : ((t332.size : Int) != 0) = true := bne_iff_ne.mpr c30
       (first | rw [c30b0] | (simp only [i64_w, i32_w]; rw [c30b0]) | rw [c30b1] | skip)
       by_cases c31 : 0 < (t332.size : Int)
       ·
        rw [if_pos c31] at H
        have c31b0 : decide (0 < (t332.size : Int)) = true := decide_eq_true c31
        have c31b1 : decide (0 < t332.size) = true := decide_eq_true (by omega)
        clear c31
        have H' := Aside0.mk H
        clear H
        have p32 : 0 ≤ (0 : Int) := (by omega)
        have q32 : 0 < t332.size := (by have : (0 : Int) < (t332.size : Int) := of_decide_eq_true (by first | (with_reducible assumption) | assumption); omega)
        have hx32 := bt_lit t332 0 0 rfl
        clear p32
        have qi32 : (0 < (t332.size : Int)) = True := eq_true (of_decide_eq_true (by first | (with_reducible assumption) | assumption))
        replace q32 := eq_true q32
        go_wp2
        go_meet
        case rel => exact ⟨_, (((bt t332 0) != 58)), (by first | rfl | (simp; done) | (simp [nil_ne_, nil_eq_]; done) | (simp [*]; done)), H', ⟨by have := HK1.out; have := HJ10.out; have := HK3.out; first | omega | exact Nat.le_refl _⟩, ⟨by repeat (first | (with_reducible first | exact HB.out | apply below_alloc | apply pw_below_drewN | apply below_drew1) | exact HB.out)⟩⟩
       rw [if_neg c31] at H
       exact absurd H (by simp)
      clear HC29
      try clear c1
      try clear p1
      try clear q1
      try clear hx1
      try clear qi1
      try clear c2
      try clear p2
      try clear q2
      try clear hx2
      try clear c3
      try clear c3b0
      try clear c3b1
      try clear p3
      try clear q3
      try clear hx3
      try clear qi3
      try clear c5
      try clear c6
      try clear c6b0
      try clear c6b1
      try clear p6
      try clear p7
      try clear q7
      try clear hx7
      try clear qi7
      try clear c8
      try clear c8b0
      try clear c8b1
      try clear c9
      try clear c9b0
      try clear c9b1
      try clear c12
      try clear c12b0
      try clear c12b1
      try clear c13
      try clear c13b0
      try clear c13b1
      try clear p14
      try clear q14
      try clear hx14
      try clear qi14
      try clear c15
      try clear c18
      try clear c18b0
      try clear c18b1
      try clear c21
      try clear c21b0
      try clear c22
      try clear c22b0
      try clear c23
      try clear c23b0
      try clear p24
      try clear q24
      try clear hx24
      try clear c25
      try clear c25b0
      try clear c30
      try clear c30b0
      try clear c30b1
      try clear c31
      try clear c31b0
      try clear c31b1
      try clear p32
      try clear q32
      try clear hx32
      try clear qi32
      try clear p1
      try clear p14
      try clear p2
      try clear p24
      try clear p32
      try clear p7
      try clear q1
      try clear q14
      try clear q24
      try clear q3
      try clear q32
      try clear q330
      try clear q7
      obtain ⟨kq, x63_28, rfl, HA, HJ28, HB⟩ := hcut
      rcases kq with _ | kj28
      · exact absurd HA.out (by simp [fastjson_validateObject.j3])
      have H := HA.out
      clear HA
      simp only [fastjson_validateObject.j3] at H
      by_cases c33 : x63_28 = true
      ·
       subst c33
       have H1 : ((errors_New.f (⟨#[109, 105, 115, 115, 105, 110, 103, 32, 39, 58, 39, 32, 97, 102, 116, 101, 114, 32, 111, 98, 106, 101, 99, 116, 32, 107, 101, 121]⟩ : ByteArray)).bind fun t333 => (some (t332, t333))) = some (r1, r2) := by rw [if_pos rfl] at H; exact H
       clear H
       have H := H1
       clear H1
       replace H := Option.bind_eq_some_iff.mp H
       obtain ⟨t333, A340, H⟩ := H
       replace H : (some (t332, t333)) = some (r1, r2) := H
       have A34 := Aside0.mk A340
       clear A340
       simp only [Option.some.injEq, Prod.mk.injEq] at H
       obtain ⟨rfl, rfl⟩ := H
       go_wp2_with (first | ((with_reducible refine gate_callee (f := 37) rfl ?_); refine goesL_ (some 65) rfl rfl Tryd.func37 (by kernel_rfl) rfl #[.string (⟨#[109, 105, 115, 115, 105, 110, 103, 32, 39, 58, 39, 32, 97, 102, 116, 101, 114, 32, 111, 98, 106, 101, 99, 116, 32, 107, 101, 121]⟩ : ByteArray)] rfl (by (try simp only [List.map_toArray, List.map_cons, List.map_nil]); first | done | rfl | (simp only [List.length_drop, List.length_take]; rfl)) ?_; (with_reducible refine (errors_New.calls (⟨#[109, 105, 115, 115, 105, 110, 103, 32, 39, 58, 39, 32, 97, 102, 116, 101, 114, 32, 111, 98, 106, 101, 99, 116, 32, 107, 101, 121]⟩ : ByteArray) t333 _ A34.out).mono ?_); rintro e w35 ⟨evt333, rfl, hb⟩; refine ⟨_, rfl, ?_⟩; have n0_ := Aside0.mk (below_step (by repeat (first | (with_reducible first | exact HB.out | apply below_alloc | apply pw_below_drewN | apply below_drew1) | exact HB.out)) hb); clear HB; have HB := n0_; clear n0_; (try clear hb); (try clear hb2); (try clear hk); (try clear hi); (try simp only [errX_none, errX_some])))
       go_ret2
       first | exact ⟨evt333, by first | rfl | (simp [errX_none, errX_some] <;> rfl) | (simp [*, errX_none, errX_some] <;> rfl), by repeat (first | (with_reducible first | exact HB.out | apply below_alloc | apply pw_below_drewN | apply below_drew1) | exact HB.out)⟩ | exact ⟨⟨(evt333).1, (evt333).2, by first | rfl | (simp [errX_none, errX_some] <;> rfl) | (simp [*, errX_none, errX_some] <;> rfl)⟩, by repeat (first | (with_reducible first | exact HB.out | apply below_alloc | apply pw_below_drewN | apply below_drew1) | exact HB.out)⟩
      replace c33 := Bool.eq_false_iff.mpr c33
      subst c33
      have H1 : (if 1 ≤ (t332.size : Int) then ((fastjson_skipWS.f kj28 (t332.extract 1 t332.size)).bind fun t334 => ((fastjson_validateValue.f kj28 t334).bind fun bt335 => (if bt335.2.isNone = true then ((fastjson_skipWS.f kj28 bt335.1).bind fun t338 => (if (t338.size : Int) = 0 then ((errors_New.f (⟨#[117, 110, 101, 120, 112, 101, 99, 116, 101, 100, 32, 101, 110, 100, 32, 111, 102, 32, 111, 98, 106, 101, 99, 116]⟩ : ByteArray)).bind fun t339 => (some (t338, t339))) else (if 0 < (t338.size : Int) then (if (bt t338 0) = 44 then (if 1 ≤ (t338.size : Int) then (fastjson_validateObject.l0 kj28 (t338.extract 1 t338.size)) else (none)) else (if (bt t338 0) = 125 then (if 1 ≤ (t338.size : Int) then (some (t338.extract 1 t338.size, none)) else (none)) else ((errors_New.f (⟨#[109, 105, 115, 115, 105, 110, 103, 32, 39, 44, 39, 32, 97, 102, 116, 101, 114, 32, 111, 98, 106, 101, 99, 116, 32, 118, 97, 108, 117, 101]⟩ : ByteArray)).bind fun t340 => (some (t338, t340))))) else (none)))) else ((errors_New.f (⟨#[99, 97, 110, 110, 111, 116, 32, 112, 97, 114, 115, 101, 32, 111, 98, 106, 101, 99, 116, 32, 118, 97, 108, 117, 101]⟩ : ByteArray)).bind fun t341 => (some (bt335.1, t341)))))) else (none)) = some (r1, r2) := by rw [if_neg (show ¬ (false = true) by decide)] at H; exact H
      clear H
      have H := H1
      clear H1
      by_cases c36 : 1 ≤ (t332.size : Int)
      ·
       rw [if_pos c36] at H
       have c36b0 := eq_true c36
       have c36b1 : decide (1 ≤ (t332.size : Int)) = true := decide_eq_true c36
       clear c36
       replace H := Option.bind_eq_some_iff.mp H
       obtain ⟨t334, A370, H⟩ := H
       replace H : ((fastjson_validateValue.f kj28 t334).bind fun bt335 => (if bt335.2.isNone = true then ((fastjson_skipWS.f kj28 bt335.1).bind fun t338 => (if (t338.size : Int) = 0 then ((errors_New.f (⟨#[117, 110, 101, 120, 112, 101, 99, 116, 101, 100, 32, 101, 110, 100, 32, 111, 102, 32, 111, 98, 106, 101, 99, 116]⟩ : ByteArray)).bind fun t339 => (some (t338, t339))) else (if 0 < (t338.size : Int) then (if (bt t338 0) = 44 then (if 1 ≤ (t338.size : Int) then (fastjson_validateObject.l0 kj28 (t338.extract 1 t338.size)) else (none)) else (if (bt t338 0) = 125 then (if 1 ≤ (t338.size : Int) then (some (t338.extract 1 t338.size, none)) else (none)) else ((errors_New.f (⟨#[109, 105, 115, 115, 105, 110, 103, 32, 39, 44, 39, 32, 97, 102, 116, 101, 114, 32, 111, 98, 106, 101, 99, 116, 32, 118, 97, 108, 117, 101]⟩ : ByteArray)).bind fun t340 => (some (t338, t340))))) else (none)))) else ((errors_New.f (⟨#[99, 97, 110, 110, 111, 116, 32, 112, 97, 114, 115, 101, 32, 111, 98, 106, 101, 99, 116, 32, 118, 97, 108, 117, 101]⟩ : ByteArray)).bind fun t341 => (some (bt335.1, t341))))) = some (r1, r2) := H
       have A37 := Aside0.mk A370
       clear A370
       replace H := Option.bind_eq_some_iff.mp H
       obtain ⟨⟨t335, t336⟩, A380, H⟩ := H
       replace H : (if t336.isNone = true then ((fastjson_skipWS.f kj28 t335).bind fun t338 => (if (t338.size : Int) = 0 then ((errors_New.f (⟨#[117, 110, 101, 120, 112, 101, 99, 116, 101, 100, 32, 101, 110, 100, 32, 111, 102, 32, 111, 98, 106, 101, 99, 116]⟩ : ByteArray)).bind fun t339 => (some (t338, t339))) else (if 0 < (t338.size : Int) then (if (bt t338 0) = 44 then (if 1 ≤ (t338.size : Int) then (fastjson_validateObject.l0 kj28 (t338.extract 1 t338.size)) else (none)) else (if (bt t338 0) = 125 then (if 1 ≤ (t338.size : Int) then (some (t338.extract 1 t338.size, none)) else (none)) else ((errors_New.f (⟨#[109, 105, 115, 115, 105, 110, 103, 32, 39, 44, 39, 32, 97, 102, 116, 101, 114, 32, 111, 98, 106, 101, 99, 116, 32, 118, 97, 108, 117, 101]⟩ : ByteArray)).bind fun t340 => (some (t338, t340))))) else (none)))) else ((errors_New.f (⟨#[99, 97, 110, 110, 111, 116, 32, 112, 97, 114, 115, 101, 32, 111, 98, 106, 101, 99, 116, 32, 118, 97, 108, 117, 101]⟩ : ByteArray)).bind fun t341 => (some (t335, t341)))) = some (r1, r2) := H
       have A38 := Aside0.mk A380
       clear A380
       rcases t336 with _ | q337
       ·
        have H1 : ((fastjson_skipWS.f kj28 t335).bind fun t338 => (if (t338.size : Int) = 0 then ((errors_New.f (⟨#[117, 110, 101, 120, 112, 101, 99, 116, 101, 100, 32, 101, 110, 100, 32, 111, 102, 32, 111, 98, 106, 101, 99, 116]⟩ : ByteArray)).bind fun t339 => (some (t338, t339))) else (if 0 < (t338.size : Int) then (if (bt t338 0) = 44 then (if 1 ≤ (t338.size : Int) then (fastjson_validateObject.l0 kj28 (t338.extract 1 t338.size)) else (none)) else (if (bt t338 0) = 125 then (if 1 ≤ (t338.size : Int) then (some (t338.extract 1 t338.size, none)) else (none)) else ((errors_New.f (⟨#[109, 105, 115, 115, 105, 110, 103, 32, 39, 44, 39, 32, 97, 102, 116, 101, 114, 32, 111, 98, 106, 101, 99, 116, 32, 118, 97, 108, 117, 101]⟩ : ByteArray)).bind fun t340 => (some (t338, t340))))) else (none)))) = some (r1, r2) := by rw [if_pos (show (none : Option Int).isNone = true by rfl)] at H; exact H
        clear H
        have H := H1
        clear H1
        try simp only [errX_none, errX_some]
        replace H := Option.bind_eq_some_iff.mp H
        obtain ⟨t338, A390, H⟩ := H
        replace H : (if (t338.size : Int) = 0 then ((errors_New.f (⟨#[117, 110, 101, 120, 112, 101, 99, 116, 101, 100, 32, 101, 110, 100, 32, 111, 102, 32, 111, 98, 106, 101, 99, 116]⟩ : ByteArray)).bind fun t339 => (some (t338, t339))) else (if 0 < (t338.size : Int) then (if (bt t338 0) = 44 then (if 1 ≤ (t338.size : Int) then (fastjson_validateObject.l0 kj28 (t338.extract 1 t338.size)) else (none)) else (if (bt t338 0) = 125 then (if 1 ≤ (t338.size : Int) then (some (t338.extract 1 t338.size, none)) else (none)) else ((errors_New.f (⟨#[109, 105, 115, 115, 105, 110, 103, 32, 39, 44, 39, 32, 97, 102, 116, 101, 114, 32, 111, 98, 106, 101, 99, 116, 32, 118, 97, 108, 117, 101]⟩ : ByteArray)).bind fun t340 => (some (t338, t340))))) else (none))) = some (r1, r2) := H
        have A39 := Aside0.mk A390
        clear A390
        by_cases c40 : (t338.size : Int) = 0
        ·
         rw [if_pos c40] at H
         have c40b0 : ((t338.size : Int) == 0) = true := beq_iff_eq.mpr c40
         have c40b1 : ((t338.size : Int) != 0) = false := bne_eq_false_iff_eq.mpr c40
         clear c40
         replace H := Option.bind_eq_some_iff.mp H
         obtain ⟨t339, A410, H⟩ := H
         replace H : (some (t338, t339)) = some (r1, r2) := H
         have A41 := Aside0.mk A410
         clear A410
         simp only [Option.some.injEq, Prod.mk.injEq] at H
         obtain ⟨rfl, rfl⟩ := H
         go_wp2_with (first | ((with_reducible refine gate_callee (f := 35) rfl ?_); refine goesL_ (some 69) rfl rfl Tryd.func35 (by kernel_rfl) rfl #[.string (t332.extract 1 t332.size)] rfl (by (try simp only [List.map_toArray, List.map_cons, List.map_nil]); first | done | rfl | (simp only [List.length_drop, List.length_take]; rfl)) ?_; (with_reducible refine (fastjson_skipWS.calls kj28 (t332.extract 1 t332.size) t334 _ A37.out).mono ?_); rintro e w' ⟨rfl, ⟨nd, rfl⟩⟩; refine ⟨_, rfl, ?_⟩) | ((with_reducible refine gate_callee (f := 36) rfl ?_); refine goesL_ (some 72) rfl rfl Tryd.func36 (by kernel_rfl) rfl #[.string t334] rfl (by (try simp only [List.map_toArray, List.map_cons, List.map_nil]); first | done | rfl | (simp only [List.length_drop, List.length_take]; rfl)) ?_; (with_reducible refine (ih_fastjson_validateValue kj28 (by have := HK1.out; have := HJ10.out; have := HK3.out; have := HJ28.out; omega) t334 t335 none _ A38.out (HG.out.below (by repeat (first | (with_reducible first | exact HB.out | apply below_alloc | apply pw_below_drewN | apply below_drew1) | exact HB.out)))).mono ?_); rintro e w42 ⟨evz_, rfl, hb⟩; refine ⟨_, rfl, ?_⟩; have n0_ := Aside0.mk (below_step (by repeat (first | (with_reducible first | exact HB.out | apply below_alloc | apply pw_below_drewN | apply below_drew1) | exact HB.out)) hb); clear HB; have HB := n0_; clear n0_; (try clear hb); (try clear hb2); (try clear hk); (try clear hi); (try simp only [errX_none, errX_some])) | ((with_reducible refine gate_callee (f := 35) rfl ?_); refine goesL_ (some 80) rfl rfl Tryd.func35 (by kernel_rfl) rfl #[.string t335] rfl (by (try simp only [List.map_toArray, List.map_cons, List.map_nil]); first | done | rfl | (simp only [List.length_drop, List.length_take]; rfl)) ?_; (with_reducible refine (fastjson_skipWS.calls kj28 t335 t338 _ A39.out).mono ?_); rintro e w' ⟨rfl, ⟨nd, rfl⟩⟩; refine ⟨_, rfl, ?_⟩) | ((with_reducible refine gate_callee (f := 37) rfl ?_); refine goesL_ (some 85) rfl rfl Tryd.func37 (by kernel_rfl) rfl #[.string (⟨#[117, 110, 101, 120, 112, 101, 99, 116, 101, 100, 32, 101, 110, 100, 32, 111, 102, 32, 111, 98, 106, 101, 99, 116]⟩ : ByteArray)] rfl (by (try simp only [List.map_toArray, List.map_cons, List.map_nil]); first | done | rfl | (simp only [List.length_drop, List.length_take]; rfl)) ?_; (with_reducible refine (errors_New.calls (⟨#[117, 110, 101, 120, 112, 101, 99, 116, 101, 100, 32, 101, 110, 100, 32, 111, 102, 32, 111, 98, 106, 101, 99, 116]⟩ : ByteArray) t339 _ A41.out).mono ?_); rintro e w43 ⟨evt339, rfl, hb⟩; refine ⟨_, rfl, ?_⟩; have n0_ := Aside0.mk (below_step (by repeat (first | (with_reducible first | exact HB.out | apply below_alloc | apply pw_below_drewN | apply below_drew1) | exact HB.out)) hb); clear HB; have HB := n0_; clear n0_; (try clear hb); (try clear hb2); (try clear hk); (try clear hi); (try simp only [errX_none, errX_some])))
         go_ret2
         first | exact ⟨evt339, by first | rfl | (simp [errX_none, errX_some] <;> rfl) | (simp [*, errX_none, errX_some] <;> rfl), by repeat (first | (with_reducible first | exact HB.out | apply below_alloc | apply pw_below_drewN | apply below_drew1) | exact HB.out)⟩ | exact ⟨⟨(evt339).1, (evt339).2, by first | rfl | (simp [errX_none, errX_some] <;> rfl) | (simp [*, errX_none, errX_some] <;> rfl)⟩, by repeat (first | (with_reducible first | exact HB.out | apply below_alloc | apply pw_below_drewN | apply below_drew1) | exact HB.out)⟩
        rw [if_neg c40] at H
        have c40b0 : ((t338.size : Int) == 0) = false := beq_eq_false_iff_ne.mpr c40
        have c40b1 : ((t338.size : Int) != 0) = true := bne_iff_ne.mpr c40
        by_cases c44 : 0 < (t338.size : Int)
        ·
         rw [if_pos c44] at H
         have c44b0 : decide (0 < (t338.size : Int)) = true := decide_eq_true c44
         have c44b1 : decide (0 < t338.size) = true := decide_eq_true (by omega)
         clear c44
         by_cases c46 : (bt t338 0) = 44
         ·
          rw [if_pos c46] at H
          have c46b0 : ((bt t338 0) == 44) = true := beq_iff_eq.mpr c46
          have c46b1 : ((bt t338 0) != 44) = false := bne_eq_false_iff_eq.mpr c46
          clear c46
          by_cases c47 : 1 ≤ (t338.size : Int)
          ·
           rw [if_pos c47] at H
           have c47b0 := eq_true c47
           have c47b1 : decide (1 ≤ (t338.size : Int)) = true := decide_eq_true c47
           clear c47
           have H' := Aside0.mk H
           clear H
           go_wp2_with (first | ((with_reducible refine gate_callee (f := 35) rfl ?_); refine goesL_ (some 69) rfl rfl Tryd.func35 (by kernel_rfl) rfl #[.string (t332.extract 1 t332.size)] rfl (by (try simp only [List.map_toArray, List.map_cons, List.map_nil]); first | done | rfl | (simp only [List.length_drop, List.length_take]; rfl)) ?_; (with_reducible refine (fastjson_skipWS.calls kj28 (t332.extract 1 t332.size) t334 _ A37.out).mono ?_); rintro e w' ⟨rfl, ⟨nd, rfl⟩⟩; refine ⟨_, rfl, ?_⟩) | ((with_reducible refine gate_callee (f := 36) rfl ?_); refine goesL_ (some 72) rfl rfl Tryd.func36 (by kernel_rfl) rfl #[.string t334] rfl (by (try simp only [List.map_toArray, List.map_cons, List.map_nil]); first | done | rfl | (simp only [List.length_drop, List.length_take]; rfl)) ?_; (with_reducible refine (ih_fastjson_validateValue kj28 (by have := HK1.out; have := HJ10.out; have := HK3.out; have := HJ28.out; omega) t334 t335 none _ A38.out (HG.out.below (by repeat (first | (with_reducible first | exact HB.out | apply below_alloc | apply pw_below_drewN | apply below_drew1) | exact HB.out)))).mono ?_); rintro e w48 ⟨evz_, rfl, hb⟩; refine ⟨_, rfl, ?_⟩; have n0_ := Aside0.mk (below_step (by repeat (first | (with_reducible first | exact HB.out | apply below_alloc | apply pw_below_drewN | apply below_drew1) | exact HB.out)) hb); clear HB; have HB := n0_; clear n0_; (try clear hb); (try clear hb2); (try clear hk); (try clear hi); (try simp only [errX_none, errX_some])) | ((with_reducible refine gate_callee (f := 35) rfl ?_); refine goesL_ (some 80) rfl rfl Tryd.func35 (by kernel_rfl) rfl #[.string t335] rfl (by (try simp only [List.map_toArray, List.map_cons, List.map_nil]); first | done | rfl | (simp only [List.length_drop, List.length_take]; rfl)) ?_; (with_reducible refine (fastjson_skipWS.calls kj28 t335 t338 _ A39.out).mono ?_); rintro e w' ⟨rfl, ⟨nd, rfl⟩⟩; refine ⟨_, rfl, ?_⟩; have p45 : 0 ≤ (0 : Int) := (by omega); have q45 : 0 < t338.size := (by have : (0 : Int) < (t338.size : Int) := of_decide_eq_true (by first | (with_reducible assumption) | assumption); omega); have hx45 := bt_lit t338 0 0 rfl; clear p45; have qi45 : (0 < (t338.size : Int)) = True := eq_true (of_decide_eq_true (by first | (with_reducible assumption) | assumption)); replace q45 := eq_true q45))
           go_roundg kj28
           case measure => have := HK1.out; have := HJ10.out; have := HK3.out; have := HJ28.out; omega
           case rel => exact ⟨(t338.extract 1 t338.size), (by first | rfl | (simp; done) | (simp [nil_ne_, nil_eq_]; done) | (simp [*]; done)), H', ⟨by have := HK1.out; have := HJ10.out; have := HK3.out; have := HJ28.out; omega⟩, ⟨by repeat (first | (with_reducible first | exact HB.out | apply below_alloc | apply pw_below_drewN | apply below_drew1) | exact HB.out)⟩⟩
          rw [if_neg c47] at H
          exact absurd H (by simp)
         rw [if_neg c46] at H
         have c46b0 : ((bt t338 0) == 44) = false := beq_eq_false_iff_ne.mpr c46
         have c46b1 : ((bt t338 0) != 44) = true := bne_iff_ne.mpr c46
         by_cases c50 : (bt t338 0) = 125
         ·
          rw [if_pos c50] at H
          have c50b0 : ((bt t338 0) == 125) = true := beq_iff_eq.mpr c50
          have c50b1 : ((bt t338 0) != 125) = false := bne_eq_false_iff_eq.mpr c50
          clear c50
          by_cases c51 : 1 ≤ (t338.size : Int)
          ·
           rw [if_pos c51] at H
           have c51b0 := eq_true c51
           have c51b1 : decide (1 ≤ (t338.size : Int)) = true := decide_eq_true c51
           clear c51
           simp only [Option.some.injEq, Prod.mk.injEq] at H
           obtain ⟨rfl, rfl⟩ := H
           go_wp2_with (first | ((with_reducible refine gate_callee (f := 35) rfl ?_); refine goesL_ (some 69) rfl rfl Tryd.func35 (by kernel_rfl) rfl #[.string (t332.extract 1 t332.size)] rfl (by (try simp only [List.map_toArray, List.map_cons, List.map_nil]); first | done | rfl | (simp only [List.length_drop, List.length_take]; rfl)) ?_; (with_reducible refine (fastjson_skipWS.calls kj28 (t332.extract 1 t332.size) t334 _ A37.out).mono ?_); rintro e w' ⟨rfl, ⟨nd, rfl⟩⟩; refine ⟨_, rfl, ?_⟩) | ((with_reducible refine gate_callee (f := 36) rfl ?_); refine goesL_ (some 72) rfl rfl Tryd.func36 (by kernel_rfl) rfl #[.string t334] rfl (by (try simp only [List.map_toArray, List.map_cons, List.map_nil]); first | done | rfl | (simp only [List.length_drop, List.length_take]; rfl)) ?_; (with_reducible refine (ih_fastjson_validateValue kj28 (by have := HK1.out; have := HJ10.out; have := HK3.out; have := HJ28.out; omega) t334 t335 none _ A38.out (HG.out.below (by repeat (first | (with_reducible first | exact HB.out | apply below_alloc | apply pw_below_drewN | apply below_drew1) | exact HB.out)))).mono ?_); rintro e w52 ⟨evz_, rfl, hb⟩; refine ⟨_, rfl, ?_⟩; have n0_ := Aside0.mk (below_step (by repeat (first | (with_reducible first | exact HB.out | apply below_alloc | apply pw_below_drewN | apply below_drew1) | exact HB.out)) hb); clear HB; have HB := n0_; clear n0_; (try clear hb); (try clear hb2); (try clear hk); (try clear hi); (try simp only [errX_none, errX_some])) | ((with_reducible refine gate_callee (f := 35) rfl ?_); refine goesL_ (some 80) rfl rfl Tryd.func35 (by kernel_rfl) rfl #[.string t335] rfl (by (try simp only [List.map_toArray, List.map_cons, List.map_nil]); first | done | rfl | (simp only [List.length_drop, List.length_take]; rfl)) ?_; (with_reducible refine (fastjson_skipWS.calls kj28 t335 t338 _ A39.out).mono ?_); rintro e w' ⟨rfl, ⟨nd, rfl⟩⟩; refine ⟨_, rfl, ?_⟩; have p45 : 0 ≤ (0 : Int) := (by omega); have q45 : 0 < t338.size := (by have : (0 : Int) < (t338.size : Int) := of_decide_eq_true (by first | (with_reducible assumption) | assumption); omega); have hx45 := bt_lit t338 0 0 rfl; clear p45; have qi45 : (0 < (t338.size : Int)) = True := eq_true (of_decide_eq_true (by first | (with_reducible assumption) | assumption)); replace q45 := eq_true q45; have p49 : 0 ≤ (0 : Int) := (by omega); have q49 : 0 < t338.size := (by have : (0 : Int) < (t338.size : Int) := of_decide_eq_true (by first | (with_reducible assumption) | assumption); omega); have hx49 := bt_lit t338 0 0 rfl; clear p49; have qi49 : (0 < (t338.size : Int)) = True := eq_true (of_decide_eq_true (by first | (with_reducible assumption) | assumption)); replace q49 := eq_true q49))
           go_ret2
           first | exact ⟨(0, Value.nilIface), by first | rfl | (simp [errX_none, errX_some] <;> rfl) | (simp [*, errX_none, errX_some] <;> rfl), by repeat (first | (with_reducible first | exact HB.out | apply below_alloc | apply pw_below_drewN | apply below_drew1) | exact HB.out)⟩ | exact ⟨⟨((0, Value.nilIface)).1, ((0, Value.nilIface)).2, by first | rfl | (simp [errX_none, errX_some] <;> rfl) | (simp [*, errX_none, errX_some] <;> rfl)⟩, by repeat (first | (with_reducible first | exact HB.out | apply below_alloc | apply pw_below_drewN | apply below_drew1) | exact HB.out)⟩
          rw [if_neg c51] at H
          exact absurd H (by simp)
         rw [if_neg c50] at H
         have c50b0 : ((bt t338 0) == 125) = false := beq_eq_false_iff_ne.mpr c50
         have c50b1 : ((bt t338 0) != 125) = true := bne_iff_ne.mpr c50
         replace H := Option.bind_eq_some_iff.mp H
         obtain ⟨t340, A530, H⟩ := H
         replace H : (some (t338, t340)) = some (r1, r2) := H
         have A53 := Aside0.mk A530
         clear A530
         simp only [Option.some.injEq, Prod.mk.injEq] at H
         obtain ⟨rfl, rfl⟩ := H
         go_wp2_with (first | ((with_reducible refine gate_callee (f := 35) rfl ?_); refine goesL_ (some 69) rfl rfl Tryd.func35 (by kernel_rfl) rfl #[.string (t332.extract 1 t332.size)] rfl (by (try simp only [List.map_toArray, List.map_cons, List.map_nil]); first | done | rfl | (simp only [List.length_drop, List.length_take]; rfl)) ?_; (with_reducible refine (fastjson_skipWS.calls kj28 (t332.extract 1 t332.size) t334 _ A37.out).mono ?_); rintro e w' ⟨rfl, ⟨nd, rfl⟩⟩; refine ⟨_, rfl, ?_⟩) | ((with_reducible refine gate_callee (f := 36) rfl ?_); refine goesL_ (some 72) rfl rfl Tryd.func36 (by kernel_rfl) rfl #[.string t334] rfl (by (try simp only [List.map_toArray, List.map_cons, List.map_nil]); first | done | rfl | (simp only [List.length_drop, List.length_take]; rfl)) ?_; (with_reducible refine (ih_fastjson_validateValue kj28 (by have := HK1.out; have := HJ10.out; have := HK3.out; have := HJ28.out; omega) t334 t335 none _ A38.out (HG.out.below (by repeat (first | (with_reducible first | exact HB.out | apply below_alloc | apply pw_below_drewN | apply below_drew1) | exact HB.out)))).mono ?_); rintro e w54 ⟨evz_, rfl, hb⟩; refine ⟨_, rfl, ?_⟩; have n0_ := Aside0.mk (below_step (by repeat (first | (with_reducible first | exact HB.out | apply below_alloc | apply pw_below_drewN | apply below_drew1) | exact HB.out)) hb); clear HB; have HB := n0_; clear n0_; (try clear hb); (try clear hb2); (try clear hk); (try clear hi); (try simp only [errX_none, errX_some])) | ((with_reducible refine gate_callee (f := 35) rfl ?_); refine goesL_ (some 80) rfl rfl Tryd.func35 (by kernel_rfl) rfl #[.string t335] rfl (by (try simp only [List.map_toArray, List.map_cons, List.map_nil]); first | done | rfl | (simp only [List.length_drop, List.length_take]; rfl)) ?_; (with_reducible refine (fastjson_skipWS.calls kj28 t335 t338 _ A39.out).mono ?_); rintro e w' ⟨rfl, ⟨nd, rfl⟩⟩; refine ⟨_, rfl, ?_⟩; have p45 : 0 ≤ (0 : Int) := (by omega); have q45 : 0 < t338.size := (by have : (0 : Int) < (t338.size : Int) := of_decide_eq_true (by first | (with_reducible assumption) | assumption); omega); have hx45 := bt_lit t338 0 0 rfl; clear p45; have qi45 : (0 < (t338.size : Int)) = True := eq_true (of_decide_eq_true (by first | (with_reducible assumption) | assumption)); replace q45 := eq_true q45; have p49 : 0 ≤ (0 : Int) := (by omega); have q49 : 0 < t338.size := (by have : (0 : Int) < (t338.size : Int) := of_decide_eq_true (by first | (with_reducible assumption) | assumption); omega); have hx49 := bt_lit t338 0 0 rfl; clear p49; have qi49 : (0 < (t338.size : Int)) = True := eq_true (of_decide_eq_true (by first | (with_reducible assumption) | assumption)); replace q49 := eq_true q49) | ((with_reducible refine gate_callee (f := 37) rfl ?_); refine goesL_ (some 97) rfl rfl Tryd.func37 (by kernel_rfl) rfl #[.string (⟨#[109, 105, 115, 115, 105, 110, 103, 32, 39, 44, 39, 32, 97, 102, 116, 101, 114, 32, 111, 98, 106, 101, 99, 116, 32, 118, 97, 108, 117, 101]⟩ : ByteArray)] rfl (by (try simp only [List.map_toArray, List.map_cons, List.map_nil]); first | done | rfl | (simp only [List.length_drop, List.length_take]; rfl)) ?_; (with_reducible refine (errors_New.calls (⟨#[109, 105, 115, 115, 105, 110, 103, 32, 39, 44, 39, 32, 97, 102, 116, 101, 114, 32, 111, 98, 106, 101, 99, 116, 32, 118, 97, 108, 117, 101]⟩ : ByteArray) t340 _ A53.out).mono ?_); rintro e w55 ⟨evt340, rfl, hb⟩; refine ⟨_, rfl, ?_⟩; have n0_ := Aside0.mk (below_step (by repeat (first | (with_reducible first | exact HB.out | apply below_alloc | apply pw_below_drewN | apply below_drew1) | exact HB.out)) hb); clear HB; have HB := n0_; clear n0_; (try clear hb); (try clear hb2); (try clear hk); (try clear hi); (try simp only [errX_none, errX_some])))
         go_ret2
         first | exact ⟨evt340, by first | rfl | (simp [errX_none, errX_some] <;> rfl) | (simp [*, errX_none, errX_some] <;> rfl), by repeat (first | (with_reducible first | exact HB.out | apply below_alloc | apply pw_below_drewN | apply below_drew1) | exact HB.out)⟩ | exact ⟨⟨(evt340).1, (evt340).2, by first | rfl | (simp [errX_none, errX_some] <;> rfl) | (simp [*, errX_none, errX_some] <;> rfl)⟩, by repeat (first | (with_reducible first | exact HB.out | apply below_alloc | apply pw_below_drewN | apply below_drew1) | exact HB.out)⟩
        rw [if_neg c44] at H
        exact absurd H (by simp)
       have H1 : ((errors_New.f (⟨#[99, 97, 110, 110, 111, 116, 32, 112, 97, 114, 115, 101, 32, 111, 98, 106, 101, 99, 116, 32, 118, 97, 108, 117, 101]⟩ : ByteArray)).bind fun t341 => (some (t335, t341))) = some (r1, r2) := by rw [if_neg (show ¬ (some q337).isNone = true by simp)] at H; exact H
       clear H
       have H := H1
       clear H1
       try simp only [errX_none, errX_some]
       replace H := Option.bind_eq_some_iff.mp H
       obtain ⟨t341, A560, H⟩ := H
       replace H : (some (t335, t341)) = some (r1, r2) := H
       have A56 := Aside0.mk A560
       clear A560
       simp only [Option.some.injEq, Prod.mk.injEq] at H
       obtain ⟨rfl, rfl⟩ := H
       go_wp2_with (first | ((with_reducible refine gate_callee (f := 35) rfl ?_); refine goesL_ (some 69) rfl rfl Tryd.func35 (by kernel_rfl) rfl #[.string (t332.extract 1 t332.size)] rfl (by (try simp only [List.map_toArray, List.map_cons, List.map_nil]); first | done | rfl | (simp only [List.length_drop, List.length_take]; rfl)) ?_; (with_reducible refine (fastjson_skipWS.calls kj28 (t332.extract 1 t332.size) t334 _ A37.out).mono ?_); rintro e w' ⟨rfl, ⟨nd, rfl⟩⟩; refine ⟨_, rfl, ?_⟩) | ((with_reducible refine gate_callee (f := 36) rfl ?_); refine goesL_ (some 72) rfl rfl Tryd.func36 (by kernel_rfl) rfl #[.string t334] rfl (by (try simp only [List.map_toArray, List.map_cons, List.map_nil]); first | done | rfl | (simp only [List.length_drop, List.length_take]; rfl)) ?_; (with_reducible refine (ih_fastjson_validateValue kj28 (by have := HK1.out; have := HJ10.out; have := HK3.out; have := HJ28.out; omega) t334 t335 (some q337) _ A38.out (HG.out.below (by repeat (first | (with_reducible first | exact HB.out | apply below_alloc | apply pw_below_drewN | apply below_drew1) | exact HB.out)))).mono ?_); rintro e w57 ⟨evt336, rfl, hb⟩; refine ⟨_, rfl, ?_⟩; have n0_ := Aside0.mk (below_step (by repeat (first | (with_reducible first | exact HB.out | apply below_alloc | apply pw_below_drewN | apply below_drew1) | exact HB.out)) hb); clear HB; have HB := n0_; clear n0_; (try clear hb); (try clear hb2); (try clear hk); (try clear hi); (try simp only [errX_none, errX_some])) | ((with_reducible refine gate_callee (f := 37) rfl ?_); refine goesL_ (some 78) rfl rfl Tryd.func37 (by kernel_rfl) rfl #[.string (⟨#[99, 97, 110, 110, 111, 116, 32, 112, 97, 114, 115, 101, 32, 111, 98, 106, 101, 99, 116, 32, 118, 97, 108, 117, 101]⟩ : ByteArray)] rfl (by (try simp only [List.map_toArray, List.map_cons, List.map_nil]); first | done | rfl | (simp only [List.length_drop, List.length_take]; rfl)) ?_; (with_reducible refine (errors_New.calls (⟨#[99, 97, 110, 110, 111, 116, 32, 112, 97, 114, 115, 101, 32, 111, 98, 106, 101, 99, 116, 32, 118, 97, 108, 117, 101]⟩ : ByteArray) t341 _ A56.out).mono ?_); rintro e w58 ⟨evt341, rfl, hb⟩; refine ⟨_, rfl, ?_⟩; have n0_ := Aside0.mk (below_step (by repeat (first | (with_reducible first | exact HB.out | apply below_alloc | apply pw_below_drewN | apply below_drew1) | exact HB.out)) hb); clear HB; have HB := n0_; clear n0_; (try clear hb); (try clear hb2); (try clear hk); (try clear hi); (try simp only [errX_none, errX_some])))
       go_ret2
       first | exact ⟨evt341, by first | rfl | (simp [errX_none, errX_some] <;> rfl) | (simp [*, errX_none, errX_some] <;> rfl), by repeat (first | (with_reducible first | exact HB.out | apply below_alloc | apply pw_below_drewN | apply below_drew1) | exact HB.out)⟩ | exact ⟨⟨(evt341).1, (evt341).2, by first | rfl | (simp [errX_none, errX_some] <;> rfl) | (simp [*, errX_none, errX_some] <;> rfl)⟩, by repeat (first | (with_reducible first | exact HB.out | apply below_alloc | apply pw_below_drewN | apply below_drew1) | exact HB.out)⟩
      rw [if_neg c36] at H
      exact absurd H (by simp)
    have H1 : ((errors_New.f (⟨#[99, 97, 110, 110, 111, 116, 32, 112, 97, 114, 115, 101, 32, 111, 98, 106, 101, 99, 116, 32, 107, 101, 121]⟩ : ByteArray)).bind fun t342 => (some (t328, t342))) = some (r1, r2) := by rw [if_neg (show ¬ (some q330).isNone = true by simp)] at H; exact H
    clear H
    have H := H1
    clear H1
    try simp only [errX_none, errX_some]
    replace H := Option.bind_eq_some_iff.mp H
    obtain ⟨t342, A590, H⟩ := H
    replace H : (some (t328, t342)) = some (r1, r2) := H
    have A59 := Aside0.mk A590
    clear A590
    simp only [Option.some.injEq, Prod.mk.injEq] at H
    obtain ⟨rfl, rfl⟩ := H
    go_wp2_with (first | ((with_reducible refine gate_callee (f := 53) rfl ?_); refine goesL_ (some 34) rfl rfl Tryd.func53 (by kernel_rfl) rfl #[.string (t325.extract 1 t325.size)] rfl (by (try simp only [List.map_toArray, List.map_cons, List.map_nil]); first | done | rfl | (simp only [List.length_drop, List.length_take]; rfl)) ?_; (with_reducible refine (fastjson_validateKey.calls kj10 (t325.extract 1 t325.size) t327 t328 (some q330) _ A19.out (HG.out.below (by repeat (first | (with_reducible first | exact HB.out | apply below_alloc | apply pw_below_drewN | apply below_drew1) | exact HB.out)))).mono ?_); rintro e w60 ⟨evt329, rfl, hb⟩; refine ⟨_, rfl, ?_⟩; have n0_ := Aside0.mk (below_step (by repeat (first | (with_reducible first | exact HB.out | apply below_alloc | apply pw_below_drewN | apply below_drew1) | exact HB.out)) hb); clear HB; have HB := n0_; clear n0_; (try clear hb); (try clear hb2); (try clear hk); (try clear hi); (try simp only [errX_none, errX_some])) | ((with_reducible refine gate_callee (f := 37) rfl ?_); refine goesL_ (some 41) rfl rfl Tryd.func37 (by kernel_rfl) rfl #[.string (⟨#[99, 97, 110, 110, 111, 116, 32, 112, 97, 114, 115, 101, 32, 111, 98, 106, 101, 99, 116, 32, 107, 101, 121]⟩ : ByteArray)] rfl (by (try simp only [List.map_toArray, List.map_cons, List.map_nil]); first | done | rfl | (simp only [List.length_drop, List.length_take]; rfl)) ?_; (with_reducible refine (errors_New.calls (⟨#[99, 97, 110, 110, 111, 116, 32, 112, 97, 114, 115, 101, 32, 111, 98, 106, 101, 99, 116, 32, 107, 101, 121]⟩ : ByteArray) t342 _ A59.out).mono ?_); rintro e w61 ⟨evt342, rfl, hb⟩; refine ⟨_, rfl, ?_⟩; have n0_ := Aside0.mk (below_step (by repeat (first | (with_reducible first | exact HB.out | apply below_alloc | apply pw_below_drewN | apply below_drew1) | exact HB.out)) hb); clear HB; have HB := n0_; clear n0_; (try clear hb); (try clear hb2); (try clear hk); (try clear hi); (try simp only [errX_none, errX_some])))
    go_ret2
    first | exact ⟨evt342, by first | rfl | (simp [errX_none, errX_some] <;> rfl) | (simp [*, errX_none, errX_some] <;> rfl), by repeat (first | (with_reducible first | exact HB.out | apply below_alloc | apply pw_below_drewN | apply below_drew1) | exact HB.out)⟩ | exact ⟨⟨(evt342).1, (evt342).2, by first | rfl | (simp [errX_none, errX_some] <;> rfl) | (simp [*, errX_none, errX_some] <;> rfl)⟩, by repeat (first | (with_reducible first | exact HB.out | apply below_alloc | apply pw_below_drewN | apply below_drew1) | exact HB.out)⟩
   rw [if_neg c18] at H
   exact absurd H (by simp)
 rw [if_neg c6] at H
 exact absurd H (by simp)
end Go.Proofs.YtdhiihegfdmokaaDoor.PFnFjCheckObject