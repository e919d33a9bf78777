/- what the Go functions that the law FnFjCheckObject reaches compute, each as a plain function, with the proof that the Go code computes just that; no condition beside those that each theorem states. -/
import Derived.Test.YtdhiihegfdmokaaDoorPFnFjCheckObjectx0
import Derived.Test.YtdhiihegfdmokaaDoorPFnFjCheckObjectx6
import Derived.Test.YtdhiihegfdmokaaDoorPFnFjCheckObjectx8
import Derived.Test.YtdhiihegfdmokaaDoorPFnFjCheckObjectx9
import Derived.Test.YtdhiihegfdmokaaDoorGXFnFjCheckObject
import Derived.Test.YtdhiihegfdmokaaDoorHEFnFjCheckObject
namespace Go.Proofs.YtdhiihegfdmokaaDoor.PFnFjCheckObject
open Go.RowKit Go.Proofs.YtdhiihegfdmokaaDoorW.PrintWords Go.Proofs.YtdhiihegfdmokaaDoorW.PrintLast Go.Proofs.YtdhiihegfdmokaaDoorW.PrintMore
set_option linter.unusedVariables false
set_option linter.unusedSimpArgs false
def fastjson_validateKey.l0 : Nat → ByteArray → Int → Int → Option (ByteArray × ByteArray × Option Int)
  | 0, _, _, _ => none
  | k + 1, x0, x7, x8 => if x8 < x7 then (if 0 ≤ x8 then (if x8 < (x0.size : Int) then (if (bt x0 x8) = 34 then (if x8 ≤ (x0.size : Int) then (if 0 ≤ (wrap64 (x8 + 1)) then (if (wrap64 (x8 + 1)) ≤ (x0.size : Int) then (some (x0.extract 0 (x8 : Int).toNat, x0.extract ((wrap64 (x8 + 1)) : Int).toNat x0.size, none)) else (none)) else (none)) else (none)) else (if (bt x0 x8) = 92 then ((fastjson_validateString.f k x0).bind fun bt320 => (some (bt320.1, bt320.2.1, bt320.2.2))) else (fastjson_validateKey.l0 k x0 x7 (wrap64 (x8 + 1))))) else (none)) else (none)) else ((errors_New.f (⟨#[109, 105, 115, 115, 105, 110, 103, 32, 99, 108, 111, 115, 105, 110, 103]⟩ : ByteArray)).bind fun t319 => (some ((⟨#[]⟩ : ByteArray), x0, t319)))
def fastjson_validateKey.f (k : Nat) (a0 : ByteArray) : Option (ByteArray × ByteArray × Option Int) := fastjson_validateKey.l0 k a0 (a0.size : Int) 0
set_option maxHeartbeats 8000000 in
set_option maxRecDepth 100000 in
theorem fastjson_validateKey.calls (k : Nat) (a0 : ByteArray) (r1 : ByteArray) (r2 : ByteArray) (r3 : Option Int) (w : World) (h : fastjson_validateKey.f k a0 = some (r1, r2, r3)) (hG : Glob w) :
    Calls Tryd.prog 53 #[.string a0] w fun e w' => ∃ evr3 : TypeId × Value, e = .returned (.tuple #[.string r1, .string r2, errX r3 evr3]) ∧ Below w.heap.size w w' := by
 have HB := Aside0.mk (Below.refl w.heap.size w)
 have HG := Aside0.mk hG
 clear hG
 have H : (fastjson_validateKey.l0 k a0 (a0.size : Int) 0) = some (r1, r2, r3) := h
 clear h
 have H' := Aside0.mk H
 clear H
 go_enter Tryd.func53, Tryd.ntmps53
 go_wp2
 repeat (go_quiet (fail); try go_wp2)
 try simp only [Act.put, List.setIfInBounds_toArray, List.set_cons_succ, List.set_cons_zero]
 go_loopg [8] k (fun kq v8 w' => ∃ (x8_1 : Int), v8 = .int .i64 x8_1 ∧ Aside0 (fastjson_validateKey.l0 kq a0 (a0.size : Int) x8_1 = some (r1, r2, r3)) ∧ Aside0 (kq ≤ k) ∧ Aside0 (Below w.heap.size w w'))
 case atStart => exact ⟨(0), (by first | rfl | (simp; done) | (simp [nil_ne_, nil_eq_]; done) | (simp [*]; done)), H', ⟨Nat.le_refl _⟩, ⟨by repeat (first | (with_reducible first | exact HB.out | apply below_alloc | apply pw_below_drewN | apply below_drew1) | exact HB.out)⟩⟩
 case round =>
  clear H'
  obtain ⟨x8_1, rfl, HA, HK1, HB⟩ := hrel
  rcases gk with _ | k1
  · exact absurd HA.out (by simp [fastjson_validateKey.l0])
  have H := HA.out
  clear HA
  simp only [fastjson_validateKey.l0] at H
  by_cases c2 : x8_1 < (a0.size : Int)
  ·
   rw [if_pos c2] at H
   have c2b0 : decide (x8_1 < (a0.size : Int)) = true := decide_eq_true c2
   clear c2
   by_cases c3 : 0 ≤ x8_1
   ·
    rw [if_pos c3] at H
    have c3b0 : decide (0 ≤ x8_1) = true := decide_eq_true c3
    clear c3
    by_cases c4 : x8_1 < (a0.size : Int)
    ·
     rw [if_pos c4] at H
     have c4b0 : decide (x8_1 < (a0.size : Int)) = true := decide_eq_true c4
     clear c4
     by_cases c6 : (bt a0 x8_1) = 34
     ·
      rw [if_pos c6] at H
      have c6b0 : ((bt a0 x8_1) == 34) = true := beq_iff_eq.mpr c6
      have c6b1 : ((bt a0 x8_1) != 34) = false := bne_eq_false_iff_eq.mpr c6
      clear c6
      have c7b0 := eq_true (of_decide_eq_true (by first | (with_reducible assumption) | assumption) : 0 ≤ x8_1)
      by_cases c8 : x8_1 ≤ (a0.size : Int)
      ·
       rw [if_pos c8] at H
       have c8b0 := eq_true c8
       have c8b1 : decide (x8_1 ≤ (a0.size : Int)) = true := decide_eq_true c8
       clear c8
       obtain ⟨js9, hjs9⟩ : ∃ j_ : ByteArray, (a0.extract 0 (x8_1 : Int).toNat) = j_ := ⟨_, rfl⟩
       skip
       replace H : (if 0 ≤ (wrap64 (x8_1 + 1)) then (if (wrap64 (x8_1 + 1)) ≤ (a0.size : Int) then (some (js9, a0.extract ((wrap64 (x8_1 + 1)) : Int).toNat a0.size, none)) else (none)) else (none)) = some (r1, r2, r3) := by first | (rw [hjs9] at H; exact H) | (simp only [hjs9] at H ⊢; exact H)
       obtain ⟨ji10, hji10⟩ : ∃ j_ : Int, (wrap64 (x8_1 + 1)) = j_ := ⟨_, rfl⟩
       replace H : (if 0 ≤ (ji10) then (if (ji10) ≤ (a0.size : Int) then (some (js9, a0.extract ((ji10) : Int).toNat a0.size, none)) else (none)) else (none)) = some (r1, r2, r3) := by first | (rw [hji10] at H; exact H) | (simp only [hji10] at H ⊢; exact H)
       have hji10w : (IntKind.i64.wrap (x8_1 + 1)) = ji10 := (i64_w _).trans hji10
       by_cases c11 : 0 ≤ (ji10)
       ·
        rw [if_pos c11] at H
        have c11b0 := eq_true c11
        have c11b1 : decide (0 ≤ (ji10)) = true := decide_eq_true c11
        clear c11
        by_cases c12 : (ji10) ≤ (a0.size : Int)
        ·
         rw [if_pos c12] at H
         have c12b0 := eq_true c12
         have c12b1 : decide ((ji10) ≤ (a0.size : Int)) = true := decide_eq_true c12
         clear c12
         obtain ⟨js13, hjs13⟩ : ∃ j_ : ByteArray, (a0.extract ((ji10) : Int).toNat a0.size) = j_ := ⟨_, rfl⟩
         skip
         replace H : (some (js9, js13, none)) = some (r1, r2, r3) := by first | (rw [hjs13] at H; exact H) | (simp only [hjs13] at H ⊢; exact H)
         simp only [Option.some.injEq, Prod.mk.injEq] at H
         obtain ⟨rfl, rfl, rfl⟩ := H
         have p5 : 0 ≤ (x8_1 : Int) := of_decide_eq_true (by first | (with_reducible assumption) | assumption)
         have q5 : x8_1 < (a0.size : Int) := of_decide_eq_true (by first | (with_reducible assumption) | assumption)
         have hx5 := bt_at a0 x8_1
         replace p5 := eq_true p5
         replace q5 := eq_true q5
         go_wp2
         repeat (go_quiet (fail); try go_wp2)
         go_ret3
         first | exact ⟨(0, Value.nilIface), by first | rfl | (simp [errX_none, errX_some] <;> rfl) | (simp only [← hjs9, ← hji10, ← hjs13]; first | rfl | (simp [errX_none, errX_some] <;> rfl)) | (simp [*, errX_none, errX_some] <;> rfl), by repeat (first | (with_reducible first | exact HB.out | apply below_alloc | apply pw_below_drewN | apply below_drew1) | exact HB.out)⟩ | exact ⟨⟨((0, Value.nilIface)).1, ((0, Value.nilIface)).2, by first | rfl | (simp [errX_none, errX_some] <;> rfl) | (simp only [← hjs9, ← hji10, ← hjs13]; first | rfl | (simp [errX_none, errX_some] <;> rfl)) | (simp [*, errX_none, errX_some] <;> rfl)⟩, by repeat (first | (with_reducible first | exact HB.out | apply below_alloc | apply pw_below_drewN | apply below_drew1) | exact HB.out)⟩
        rw [if_neg c12] at H
        exact absurd H (by simp)
       rw [if_neg c11] at H
       exact absurd H (by simp)
      rw [if_neg c8] at H
      exact absurd H (by simp)
     rw [if_neg c6] at H
     have c6b0 : ((bt a0 x8_1) == 34) = false := beq_eq_false_iff_ne.mpr c6
     have c6b1 : ((bt a0 x8_1) != 34) = true := bne_iff_ne.mpr c6
     by_cases c15 : (bt a0 x8_1) = 92
     ·
      rw [if_pos c15] at H
      have c15b0 : ((bt a0 x8_1) == 92) = true := beq_iff_eq.mpr c15
      have c15b1 : ((bt a0 x8_1) != 92) = false := bne_eq_false_iff_eq.mpr c15
      clear c15
      replace H := Option.bind_eq_some_iff.mp H
      obtain ⟨⟨t320, t321, t322⟩, A160, H⟩ := H
      replace H : (some (t320, t321, t322)) = some (r1, r2, r3) := H
      have A16 := Aside0.mk A160
      clear A160
      simp only [Option.some.injEq, Prod.mk.injEq] at H
      obtain ⟨rfl, rfl, rfl⟩ := H
      have p5 : 0 ≤ (x8_1 : Int) := of_decide_eq_true (by first | (with_reducible assumption) | assumption)
      have q5 : x8_1 < (a0.size : Int) := of_decide_eq_true (by first | (with_reducible assumption) | assumption)
      have hx5 := bt_at a0 x8_1
      replace p5 := eq_true p5
      replace q5 := eq_true q5
      have p14 : 0 ≤ (x8_1 : Int) := of_decide_eq_true (by first | (with_reducible assumption) | assumption)
      have q14 : x8_1 < (a0.size : Int) := of_decide_eq_true (by first | (with_reducible assumption) | assumption)
      have hx14 := bt_at a0 x8_1
      replace p14 := eq_true p14
      replace q14 := eq_true q14
      iterate 3 (try go_wp2_with (first | (go_at_call 56; (with_reducible refine (fastjson_validateString.calls k1 a0 t320 t321 t322 _ A16.out (HG.out.below (by repeat (first | (with_reducible first | exact HB.out | apply below_alloc | apply pw_below_drewN | apply below_drew1) | exact HB.out)))).mono ?_); rintro e w17 ⟨evt322, rfl, hb⟩; have n0_ := Aside0.mk (below_step (by repeat (first | (with_reducible first | exact HB.out | apply below_alloc | apply pw_below_drewN | apply below_drew1) | exact HB.out)) hb); clear HB; have HB := n0_; clear n0_; (try clear hb); (try clear hb2); (try clear hk); (try clear hi); (try simp only [errX_none, errX_some]))); try go_quiet (first | (go_at_call 56; (with_reducible refine (fastjson_validateString.calls k1 a0 t320 t321 t322 _ A16.out (HG.out.below (by repeat (first | (with_reducible first | exact HB.out | apply below_alloc | apply pw_below_drewN | apply below_drew1) | exact HB.out)))).mono ?_); rintro e w17 ⟨evt322, rfl, hb⟩; have n0_ := Aside0.mk (below_step (by repeat (first | (with_reducible first | exact HB.out | apply below_alloc | apply pw_below_drewN | apply below_drew1) | exact HB.out)) hb); clear HB; have HB := n0_; clear n0_; (try clear hb); (try clear hb2); (try clear hk); (try clear hi); (try simp only [errX_none, errX_some]))))
      go_ret3
      first | exact ⟨evt322, by first | rfl | (simp [errX_none, errX_some] <;> rfl) | (simp [*, errX_none, errX_some] <;> rfl), by repeat (first | (with_reducible first | exact HB.out | apply below_alloc | apply pw_below_drewN | apply below_drew1) | exact HB.out)⟩ | exact ⟨⟨(evt322).1, (evt322).2, by first | rfl | (simp [errX_none, errX_some] <;> rfl) | (simp [*, errX_none, errX_some] <;> rfl)⟩, by repeat (first | (with_reducible first | exact HB.out | apply below_alloc | apply pw_below_drewN | apply below_drew1) | exact HB.out)⟩
     rw [if_neg c15] at H
     have c15b0 : ((bt a0 x8_1) == 92) = false := beq_eq_false_iff_ne.mpr c15
     have c15b1 : ((bt a0 x8_1) != 92) = true := bne_iff_ne.mpr c15
     have H' := Aside0.mk H
     clear H
     have p5 : 0 ≤ (x8_1 : Int) := of_decide_eq_true (by first | (with_reducible assumption) | assumption)
     have q5 : x8_1 < (a0.size : Int) := of_decide_eq_true (by first | (with_reducible assumption) | assumption)
     have hx5 := bt_at a0 x8_1
     replace p5 := eq_true p5
     replace q5 := eq_true q5
     have p14 : 0 ≤ (x8_1 : Int) := of_decide_eq_true (by first | (with_reducible assumption) | assumption)
     have q14 : x8_1 < (a0.size : Int) := of_decide_eq_true (by first | (with_reducible assumption) | assumption)
     have hx14 := bt_at a0 x8_1
     replace p14 := eq_true p14
     replace q14 := eq_true q14
     go_wp2
     repeat (go_quiet (fail); try go_wp2)
     go_roundg k1
     case measure => have := HK1.out; omega
     case rel => exact ⟨(wrap64 (x8_1 + 1)), (by first | rfl | (simp; done) | (simp [nil_ne_, nil_eq_]; done) | (simp [*]; done)), H', ⟨by have := HK1.out; omega⟩, ⟨by repeat (first | (with_reducible first | exact HB.out | apply below_alloc | apply pw_below_drewN | apply below_drew1) | exact HB.out)⟩⟩
    rw [if_neg c4] at H
    exact absurd H (by simp)
   rw [if_neg c3] at H
   exact absurd H (by simp)
  rw [if_neg c2] at H
  have c2b0 : decide (x8_1 < (a0.size : Int)) = false := decide_eq_false c2
  clear c2
  replace H := Option.bind_eq_some_iff.mp H
  obtain ⟨t319, A180, H⟩ := H
  replace H : (some ((⟨#[]⟩ : ByteArray), a0, t319)) = some (r1, r2, r3) := H
  have A18 := Aside0.mk A180
  clear A180
  simp only [Option.some.injEq, Prod.mk.injEq] at H
  obtain ⟨rfl, rfl, rfl⟩ := H
  iterate 3 (try go_wp2_with (first | (go_at_call 37; (with_reducible refine (errors_New.calls (⟨#[109, 105, 115, 115, 105, 110, 103, 32, 99, 108, 111, 115, 105, 110, 103]⟩ : ByteArray) t319 _ A18.out).mono ?_); rintro e w19 ⟨evt319, rfl, hb⟩; have n0_ := Aside0.mk (below_step (by repeat (first | (with_reducible first | exact HB.out | apply below_alloc | apply pw_below_drewN | apply below_drew1) | exact HB.out)) hb); clear HB; have HB := n0_; clear n0_; (try clear hb); (try clear hb2); (try clear hk); (try clear hi); (try simp only [errX_none, errX_some]))); try go_quiet (first | (go_at_call 37; (with_reducible refine (errors_New.calls (⟨#[109, 105, 115, 115, 105, 110, 103, 32, 99, 108, 111, 115, 105, 110, 103]⟩ : ByteArray) t319 _ A18.out).mono ?_); rintro e w19 ⟨evt319, rfl, hb⟩; have n0_ := Aside0.mk (below_step (by repeat (first | (with_reducible first | exact HB.out | apply below_alloc | apply pw_below_drewN | apply below_drew1) | exact HB.out)) hb); clear HB; have HB := n0_; clear n0_; (try clear hb); (try clear hb2); (try clear hk); (try clear hi); (try simp only [errX_none, errX_some]))))
  go_ret3
  first | exact ⟨evt319, by first | rfl | (simp [errX_none, errX_some] <;> rfl) | (simp [*, errX_none, errX_some] <;> rfl), by repeat (first | (with_reducible first | exact HB.out | apply below_alloc | apply pw_below_drewN | apply below_drew1) | exact HB.out)⟩ | exact ⟨⟨(evt319).1, (evt319).2, by first | rfl | (simp [errX_none, errX_some] <;> rfl) | (simp [*, errX_none, errX_some] <;> rfl)⟩, by repeat (first | (with_reducible first | exact HB.out | apply below_alloc | apply pw_below_drewN | apply below_drew1) | exact HB.out)⟩
mutual
def fastjson_validateObject.l0 : Nat → ByteArray → Option (ByteArray × Option Int)
  | 0, _ => none
  | k + 1, x0 => (fastjson_skipWS.f k x0).bind fun t325 => (if (t325.size : Int) = 0 then (fastjson_validateObject.j1 k t325 true) else (if 0 < (t325.size : Int) then (fastjson_validateObject.j1 k t325 ((bt t325 0) != 34)) else (none)))
def fastjson_validateObject.j1 : Nat → ByteArray → Bool → Option (ByteArray × Option Int)
  | 0, _, _ => none
  | k + 1, x0, x28 => if x28 = true then ((errors_New.f (⟨#[99, 97, 110, 110, 111, 116, 32, 102, 105, 110, 100, 32, 111, 112, 101, 110, 105, 110, 103, 32, 39, 34, 34, 32, 102, 111, 114, 32, 111, 98, 106, 101, 99, 116, 32, 107, 101, 121]⟩ : ByteArray)).bind fun t326 => (some (x0, t326))) else (if 1 ≤ (x0.size : Int) then ((fastjson_validateKey.f k (x0.extract 1 x0.size)).bind fun bt327 => (if bt327.2.2.isNone = true then (fastjson_validateObject.l1 k bt327.2.1 bt327.1 (bt327.1.size : Int) 0) else ((errors_New.f (⟨#[99, 97, 110, 110, 111, 116, 32, 112, 97, 114, 115, 101, 32, 111, 98, 106, 101, 99, 116, 32, 107, 101, 121]⟩ : ByteArray)).bind fun t342 => (some (bt327.2.1, t342))))) else (none))
def fastjson_validateObject.l1 : Nat → ByteArray → ByteArray → Int → Int → Option (ByteArray × Option Int)
  | 0, _, _, _, _ => none
  | k + 1, x0, x5, x43, x44 => if x44 < x43 then (if 0 ≤ x44 then (if x44 < (x5.size : Int) then (if (bt x5 x44) < 32 then ((errors_New.f (⟨#[111, 98, 106, 101, 99, 116, 32, 107, 101, 121, 32, 99, 97, 110, 110, 111, 116, 32, 99, 111, 110, 116, 97, 105, 110, 32, 99, 111, 110, 116, 114, 111, 108, 32, 99, 104, 97, 114, 32, 48, 120]⟩ : ByteArray)).bind fun t331 => (some (x0, t331))) else (fastjson_validateObject.l1 k x0 x5 x43 (wrap64 (x44 + 1)))) else (none)) else (none)) else ((fastjson_skipWS.f k x0).bind fun t332 => (if (t332.size : Int) = 0 then (fastjson_validateObject.j3 k t332 true) else (if 0 < (t332.size : Int) then (fastjson_validateObject.j3 k t332 ((bt t332 0) != 58)) else (none))))
def fastjson_validateObject.j3 : Nat → ByteArray → Bool → Option (ByteArray × Option Int)
  | 0, _, _ => none
  | k + 1, x0, x63 => if x63 = true then ((errors_New.f (⟨#[109, 105, 115, 115, 105, 110, 103, 32, 39, 58, 39, 32, 97, 102, 116, 101, 114, 32, 111, 98, 106, 101, 99, 116, 32, 107, 101, 121]⟩ : ByteArray)).bind fun t333 => (some (x0, t333))) else (if 1 ≤ (x0.size : Int) then ((fastjson_skipWS.f k (x0.extract 1 x0.size)).bind fun t334 => ((fastjson_validateValue.f k t334).bind fun bt335 => (if bt335.2.isNone = true then ((fastjson_skipWS.f k bt335.1).bind fun t338 => (if (t338.size : Int) = 0 then ((errors_New.f (⟨#[117, 110, 101, 120, 112, 101, 99, 116, 101, 100, 32, 101, 110, 100, 32, 111, 102, 32, 111, 98, 106, 101, 99, 116]⟩ : ByteArray)).bind fun t339 => (some (t338, t339))) else (if 0 < (t338.size : Int) then (if (bt t338 0) = 44 then (if 1 ≤ (t338.size : Int) then (fastjson_validateObject.l0 k (t338.extract 1 t338.size)) else (none)) else (if (bt t338 0) = 125 then (if 1 ≤ (t338.size : Int) then (some (t338.extract 1 t338.size, none)) else (none)) else ((errors_New.f (⟨#[109, 105, 115, 115, 105, 110, 103, 32, 39, 44, 39, 32, 97, 102, 116, 101, 114, 32, 111, 98, 106, 101, 99, 116, 32, 118, 97, 108, 117, 101]⟩ : ByteArray)).bind fun t340 => (some (t338, t340))))) else (none)))) else ((errors_New.f (⟨#[99, 97, 110, 110, 111, 116, 32, 112, 97, 114, 115, 101, 32, 111, 98, 106, 101, 99, 116, 32, 118, 97, 108, 117, 101]⟩ : ByteArray)).bind fun t341 => (some (bt335.1, t341)))))) else (none))
def fastjson_validateObject.f : Nat → ByteArray → Option (ByteArray × Option Int)
  | 0, _ => none
  | k + 1, a0 => (fastjson_skipWS.f k a0).bind fun t323 => (if (t323.size : Int) = 0 then ((errors_New.f (⟨#[109, 105, 115, 115, 105, 110, 103, 32, 39, 125]⟩ : ByteArray)).bind fun t324 => (some (t323, t324))) else (if 0 < (t323.size : Int) then (if (bt t323 0) = 125 then (if 1 ≤ (t323.size : Int) then (some (t323.extract 1 t323.size, none)) else (none)) else (fastjson_validateObject.l0 k t323)) else (none)))
def fastjson_validateValue.l0 : Nat → ByteArray → ByteArray → Int → Int → Option (ByteArray × Option Int)
  | 0, _, _, _, _ => none
  | k + 1, x8, x9, x62, x63 => if x63 < x62 then (if 0 ≤ x63 then (if x63 < (x8.size : Int) then (if (bt x8 x63) < 32 then ((errors_New.f (⟨#[115, 116, 114, 105, 110, 103, 32, 99, 97, 110, 110, 111, 116, 32, 99, 111, 110, 116, 97, 105, 110, 32, 99, 111, 110, 116, 114, 111, 108, 32, 99, 104, 97, 114, 32, 48, 120]⟩ : ByteArray)).bind fun t356 => (some (x9, t356))) else (fastjson_validateValue.l0 k x8 x9 x62 (wrap64 (x63 + 1)))) else (none)) else (none)) else (some (x9, none))
def fastjson_validateValue.f : Nat → ByteArray → Option (ByteArray × Option Int)
  | 0, _ => none
  | k + 1, a0 => if (a0.size : Int) = 0 then ((errors_New.f (⟨#[99, 97, 110, 110, 111, 116, 32, 112, 97, 114, 115, 101, 32, 101, 109, 112, 116, 121, 32, 115, 116, 114, 105, 110, 103]⟩ : ByteArray)).bind fun t343 => (some (a0, t343))) else (if 0 < (a0.size : Int) then (if (bt a0 0) = 123 then (if 1 ≤ (a0.size : Int) then ((fastjson_validateObject.f k (a0.extract 1 a0.size)).bind fun bt344 => (if bt344.2.isNone = true then (some (bt344.1, none)) else ((errors_New.f (⟨#[99, 97, 110, 110, 111, 116, 32, 112, 97, 114, 115, 101, 32, 111, 98, 106, 101, 99, 116]⟩ : ByteArray)).bind fun t347 => (some (bt344.1, t347))))) else (none)) else (if (bt a0 0) = 91 then (if 1 ≤ (a0.size : Int) then ((fastjson_validateArray.f k (a0.extract 1 a0.size)).bind fun bt348 => (if bt348.2.isNone = true then (some (bt348.1, none)) else ((errors_New.f (⟨#[99, 97, 110, 110, 111, 116, 32, 112, 97, 114, 115, 101, 32, 97, 114, 114, 97, 121]⟩ : ByteArray)).bind fun t351 => (some (bt348.1, t351))))) else (none)) else (if (bt a0 0) = 34 then (if 1 ≤ (a0.size : Int) then ((fastjson_validateString.f k (a0.extract 1 a0.size)).bind fun bt352 => (if bt352.2.2.isNone = true then (fastjson_validateValue.l0 k bt352.1 bt352.2.1 (bt352.1.size : Int) 0) else ((errors_New.f (⟨#[99, 97, 110, 110, 111, 116, 32, 112, 97, 114, 115, 101, 32, 115, 116, 114, 105, 110, 103]⟩ : ByteArray)).bind fun t357 => (some (bt352.2.1, t357))))) else (none)) else (if (bt a0 0) = 116 then (if (a0.size : Int) < 4 then ((errors_New.f (⟨#[117, 110, 101, 120, 112, 101, 99, 116, 101, 100, 32, 118, 97, 108, 117, 101, 32, 102, 111, 117, 110, 100]⟩ : ByteArray)).bind fun t358 => (some (a0, t358))) else (if 0 ≤ 4 then (if 4 ≤ (a0.size : Int) then (if (a0.extract 0 4).toList = ([116, 114, 117, 101] : List UInt8) then (some (a0.extract 4 a0.size, none)) else ((errors_New.f (⟨#[117, 110, 101, 120, 112, 101, 99, 116, 101, 100, 32, 118, 97, 108, 117, 101, 32, 102, 111, 117, 110, 100]⟩ : ByteArray)).bind fun t359 => (some (a0, t359)))) else (none)) else (none))) else (if (bt a0 0) = 102 then (if (a0.size : Int) < 5 then ((errors_New.f (⟨#[117, 110, 101, 120, 112, 101, 99, 116, 101, 100, 32, 118, 97, 108, 117, 101, 32, 102, 111, 117, 110, 100]⟩ : ByteArray)).bind fun t360 => (some (a0, t360))) else (if 0 ≤ 5 then (if 5 ≤ (a0.size : Int) then (if (a0.extract 0 5).toList = ([102, 97, 108, 115, 101] : List UInt8) then (some (a0.extract 5 a0.size, none)) else ((errors_New.f (⟨#[117, 110, 101, 120, 112, 101, 99, 116, 101, 100, 32, 118, 97, 108, 117, 101, 32, 102, 111, 117, 110, 100]⟩ : ByteArray)).bind fun t361 => (some (a0, t361)))) else (none)) else (none))) else (if (bt a0 0) = 110 then (if (a0.size : Int) < 4 then ((errors_New.f (⟨#[117, 110, 101, 120, 112, 101, 99, 116, 101, 100, 32, 118, 97, 108, 117, 101, 32, 102, 111, 117, 110, 100]⟩ : ByteArray)).bind fun t362 => (some (a0, t362))) else (if 0 ≤ 4 then (if 4 ≤ (a0.size : Int) then (if (a0.extract 0 4).toList = ([110, 117, 108, 108] : List UInt8) then (some (a0.extract 4 a0.size, none)) else ((errors_New.f (⟨#[117, 110, 101, 120, 112, 101, 99, 116, 101, 100, 32, 118, 97, 108, 117, 101, 32, 102, 111, 117, 110, 100]⟩ : ByteArray)).bind fun t363 => (some (a0, t363)))) else (none)) else (none))) else ((fastjson_validateNumber.f k a0).bind fun bt364 => (if bt364.2.isNone = true then (some (bt364.1, none)) else ((errors_New.f (⟨#[99, 97, 110, 110, 111, 116, 32, 112, 97, 114, 115, 101, 32, 110, 117, 109, 98, 101, 114]⟩ : ByteArray)).bind fun t367 => (some (bt364.1, t367))))))))))) else (none))
def fastjson_validateArray.l0 : Nat → ByteArray → Option (ByteArray × Option Int)
  | 0, _ => none
  | k + 1, x0 => (fastjson_skipWS.f k x0).bind fun t370 => ((fastjson_validateValue.f k t370).bind fun bt371 => (if bt371.2.isNone = true then ((fastjson_skipWS.f k bt371.1).bind fun t374 => (if (t374.size : Int) = 0 then ((errors_New.f (⟨#[117, 110, 101, 120, 112, 101, 99, 116, 101, 100, 32, 101, 110, 100, 32, 111, 102, 32, 97, 114, 114, 97, 121]⟩ : ByteArray)).bind fun t375 => (some (t374, t375))) else (if 0 < (t374.size : Int) then (if (bt t374 0) = 44 then (if 1 ≤ (t374.size : Int) then (fastjson_validateArray.l0 k (t374.extract 1 t374.size)) else (none)) else (if (bt t374 0) = 93 then (if 1 ≤ (t374.size : Int) then (some (t374.extract 1 t374.size, none)) else (none)) else ((errors_New.f (⟨#[109, 105, 115, 115, 105, 110, 103, 32, 39, 44, 39, 32, 97, 102, 116, 101, 114, 32, 97, 114, 114, 97, 121, 32, 118, 97, 108, 117, 101]⟩ : ByteArray)).bind fun t376 => (some (t374, t376))))) else (none)))) else ((errors_New.f (⟨#[99, 97, 110, 110, 111, 116, 32, 112, 97, 114, 115, 101, 32, 97, 114, 114, 97, 121, 32, 118, 97, 108, 117, 101]⟩ : ByteArray)).bind fun t377 => (some (bt371.1, t377)))))
def fastjson_validateArray.f : Nat → ByteArray → Option (ByteArray × Option Int)
  | 0, _ => none
  | k + 1, a0 => (fastjson_skipWS.f k a0).bind fun t368 => (if (t368.size : Int) = 0 then ((errors_New.f (⟨#[109, 105, 115, 115, 105, 110, 103, 32, 39, 93]⟩ : ByteArray)).bind fun t369 => (some (t368, t369))) else (if 0 < (t368.size : Int) then (if (bt t368 0) = 93 then (if 1 ≤ (t368.size : Int) then (some (t368.extract 1 t368.size, none)) else (none)) else (fastjson_validateArray.l0 k t368)) else (none)))
end
abbrev fastjson_validateObject.CallsP (k : Nat) : Prop := ∀ (a0 : ByteArray) (r1 : ByteArray) (r2 : Option Int) (w : World) (h : fastjson_validateObject.f k a0 = some (r1, r2)) (hG : Glob w),
    Calls Tryd.prog 34 #[.string a0] w fun e w' => ∃ evr2 : TypeId × Value, e = .returned (.tuple #[.string r1, errX r2 evr2]) ∧ Below w.heap.size w w'
abbrev fastjson_validateValue.CallsP (k : Nat) : Prop := ∀ (a0 : ByteArray) (r1 : ByteArray) (r2 : Option Int) (w : World) (h : fastjson_validateValue.f k a0 = some (r1, r2)) (hG : Glob w),
    Calls Tryd.prog 36 #[.string a0] w fun e w' => ∃ evr2 : TypeId × Value, e = .returned (.tuple #[.string r1, errX r2 evr2]) ∧ Below w.heap.size w w'
abbrev fastjson_validateArray.CallsP (k : Nat) : Prop := ∀ (a0 : ByteArray) (r1 : ByteArray) (r2 : Option Int) (w : World) (h : fastjson_validateArray.f k a0 = some (r1, r2)) (hG : Glob w),
    Calls Tryd.prog 55 #[.string a0] w fun e w' => ∃ evr2 : TypeId × Value, e = .returned (.tuple #[.string r1, errX r2 evr2]) ∧ Below w.heap.size w w'
end Go.Proofs.YtdhiihegfdmokaaDoor.PFnFjCheckObject