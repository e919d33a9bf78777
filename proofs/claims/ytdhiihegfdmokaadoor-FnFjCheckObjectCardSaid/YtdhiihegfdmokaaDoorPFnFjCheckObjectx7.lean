/- what the Go functions that the law FnFjCheckObject reaches compute, each as a plain function, with the proof that the Go code computes just that; no condition beside those that each theorem states. -/
import Derived.Test.YtdhiihegfdmokaaDoorPFnFjCheckObjectx0
import Derived.Test.YtdhiihegfdmokaaDoorHEFnFjCheckObject
import Derived.Test.YtdhiihegfdmokaaDoorHIFnFjCheckObject
namespace Go.Proofs.YtdhiihegfdmokaaDoor.PFnFjCheckObject
open Go.RowKit Go.Proofs.YtdhiihegfdmokaaDoorW.PrintWords Go.Proofs.YtdhiihegfdmokaaDoorW.PrintLast Go.Proofs.YtdhiihegfdmokaaDoorW.PrintMore
set_option linter.unusedVariables false
set_option linter.unusedSimpArgs false
mutual
def fastjson_parseRawString.j0 : Nat → ByteArray → Int → Bool → Option (ByteArray × ByteArray × Option Int)
  | 0, _, _, _ => none
  | k + 1, x0, x5, x22 => if x22 = true then (if 0 ≤ x5 then (if x5 ≤ (x0.size : Int) then (if 0 ≤ (wrap64 (x5 + 1)) then (if (wrap64 (x5 + 1)) ≤ (x0.size : Int) then (some (x0.extract 0 (x5 : Int).toNat, x0.extract ((wrap64 (x5 + 1)) : Int).toNat x0.size, none)) else (none)) else (none)) else (none)) else (none)) else (fastjson_parseRawString.l0 k x0 x5 x0)
def fastjson_parseRawString.l0 : Nat → ByteArray → Int → ByteArray → Option (ByteArray × ByteArray × Option Int)
  | 0, _, _, _ => none
  | k + 1, x0, x5, x6 => fastjson_parseRawString.l1 k x0 x5 x6 (wrap64 (x5 - 1))
def fastjson_parseRawString.j3 : Nat → ByteArray → Int → ByteArray → Int → Option (ByteArray × ByteArray × Option Int)
  | 0, _, _, _, _ => none
  | k + 1, x0, x5, x6, x7 => if (Int.tmod (IntKind.u64.wrap (wrap64 (x5 - x7))) 2) = 0 then (if 0 ≤ (wrap64 ((wrap64 ((x6.size : Int) - (x0.size : Int))) + x5)) then (if (wrap64 ((wrap64 ((x6.size : Int) - (x0.size : Int))) + x5)) ≤ (x6.size : Int) then (if 0 ≤ (wrap64 (x5 + 1)) then (if (wrap64 (x5 + 1)) ≤ (x0.size : Int) then (some (x6.extract 0 ((wrap64 ((wrap64 ((x6.size : Int) - (x0.size : Int))) + x5)) : Int).toNat, x0.extract ((wrap64 (x5 + 1)) : Int).toNat x0.size, none)) else (none)) else (none)) else (none)) else (none)) else (if 0 ≤ (wrap64 (x5 + 1)) then (if (wrap64 (x5 + 1)) ≤ (x0.size : Int) then ((strings_IndexByte.f (x0.extract ((wrap64 (x5 + 1)) : Int).toNat x0.size) 34).bind fun t294 => (if t294 < 0 then ((errors_New.f (⟨#[109, 105, 115, 115, 105, 110, 103, 32, 99, 108, 111, 115, 105, 110, 103]⟩ : ByteArray)).bind fun t295 => (some (x6, (⟨#[]⟩ : ByteArray), t295))) else (if t294 = 0 then (if 0 ≤ (wrap64 ((wrap64 ((x6.size : Int) - ((x0.extract ((wrap64 (x5 + 1)) : Int).toNat x0.size).size : Int))) + t294)) then (if (wrap64 ((wrap64 ((x6.size : Int) - ((x0.extract ((wrap64 (x5 + 1)) : Int).toNat x0.size).size : Int))) + t294)) ≤ (x6.size : Int) then (if 0 ≤ (wrap64 (t294 + 1)) then (if (wrap64 (t294 + 1)) ≤ ((x0.extract ((wrap64 (x5 + 1)) : Int).toNat x0.size).size : Int) then (some (x6.extract 0 ((wrap64 ((wrap64 ((x6.size : Int) - ((x0.extract ((wrap64 (x5 + 1)) : Int).toNat x0.size).size : Int))) + t294)) : Int).toNat, (x0.extract ((wrap64 (x5 + 1)) : Int).toNat x0.size).extract ((wrap64 (t294 + 1)) : Int).toNat (x0.extract ((wrap64 (x5 + 1)) : Int).toNat x0.size).size, none)) else (none)) else (none)) else (none)) else (none)) else (if 0 ≤ (wrap64 (t294 - 1)) then (if (wrap64 (t294 - 1)) < ((x0.extract ((wrap64 (x5 + 1)) : Int).toNat x0.size).size : Int) then (if (bt (x0.extract ((wrap64 (x5 + 1)) : Int).toNat x0.size) (wrap64 (t294 - 1))) = 92 then (fastjson_parseRawString.l0 k (x0.extract ((wrap64 (x5 + 1)) : Int).toNat x0.size) t294 x6) else (if 0 ≤ (wrap64 ((wrap64 ((x6.size : Int) - ((x0.extract ((wrap64 (x5 + 1)) : Int).toNat x0.size).size : Int))) + t294)) then (if (wrap64 ((wrap64 ((x6.size : Int) - ((x0.extract ((wrap64 (x5 + 1)) : Int).toNat x0.size).size : Int))) + t294)) ≤ (x6.size : Int) then (if 0 ≤ (wrap64 (t294 + 1)) then (if (wrap64 (t294 + 1)) ≤ ((x0.extract ((wrap64 (x5 + 1)) : Int).toNat x0.size).size : Int) then (some (x6.extract 0 ((wrap64 ((wrap64 ((x6.size : Int) - ((x0.extract ((wrap64 (x5 + 1)) : Int).toNat x0.size).size : Int))) + t294)) : Int).toNat, (x0.extract ((wrap64 (x5 + 1)) : Int).toNat x0.size).extract ((wrap64 (t294 + 1)) : Int).toNat (x0.extract ((wrap64 (x5 + 1)) : Int).toNat x0.size).size, none)) else (none)) else (none)) else (none)) else (none))) else (none)) else (none))))) else (none)) else (none))
def fastjson_parseRawString.l1 : Nat → ByteArray → Int → ByteArray → Int → Option (ByteArray × ByteArray × Option Int)
  | 0, _, _, _, _ => none
  | k + 1, x0, x5, x6, x7 => if x7 > 0 then (if 0 ≤ (wrap64 (x7 - 1)) then (if (wrap64 (x7 - 1)) < (x0.size : Int) then (if (bt x0 (wrap64 (x7 - 1))) = 92 then (fastjson_parseRawString.l1 k x0 x5 x6 (wrap64 (x7 - 1))) else (fastjson_parseRawString.j3 k x0 x5 x6 x7)) else (none)) else (none)) else (fastjson_parseRawString.j3 k x0 x5 x6 x7)
end
def fastjson_parseRawString.f (k : Nat) (a0 : ByteArray) : Option (ByteArray × ByteArray × Option Int) := (strings_IndexByte.f a0 34).bind fun t292 => (if t292 < 0 then ((errors_New.f (⟨#[109, 105, 115, 115, 105, 110, 103, 32, 99, 108, 111, 115, 105, 110, 103]⟩ : ByteArray)).bind fun t293 => (some (a0, (⟨#[]⟩ : ByteArray), t293))) else (if t292 = 0 then (fastjson_parseRawString.j0 k a0 t292 true) else (if 0 ≤ (wrap64 (t292 - 1)) then (if (wrap64 (t292 - 1)) < (a0.size : Int) then (fastjson_parseRawString.j0 k a0 t292 ((bt a0 (wrap64 (t292 - 1))) != 92)) else (none)) else (none))))
set_option maxHeartbeats 8000000 in
set_option maxRecDepth 100000 in
theorem fastjson_parseRawString.calls (k : Nat) (a0 : ByteArray) (r1 : ByteArray) (r2 : ByteArray) (r3 : Option Int) (w : World) (h : fastjson_parseRawString.f k a0 = some (r1, r2, r3)) :
    Calls Tryd.prog 61 #[.string a0] w fun e w' => ∃ evr3 : TypeId × Value, e = .returned (.tuple #[.string r1, .string r2, errX r3 evr3]) ∧ Below w.heap.size w w' := by
 have HB := Aside0.mk (Below.refl w.heap.size w)
 have H : ((strings_IndexByte.f a0 34).bind fun t292 => (if t292 < 0 then ((errors_New.f (⟨#[109, 105, 115, 115, 105, 110, 103, 32, 99, 108, 111, 115, 105, 110, 103]⟩ : ByteArray)).bind fun t293 => (some (a0, (⟨#[]⟩ : ByteArray), t293))) else (if t292 = 0 then (fastjson_parseRawString.j0 k a0 t292 true) else (if 0 ≤ (wrap64 (t292 - 1)) then (if (wrap64 (t292 - 1)) < (a0.size : Int) then (fastjson_parseRawString.j0 k a0 t292 ((bt a0 (wrap64 (t292 - 1))) != 92)) else (none)) else (none))))) = some (r1, r2, r3) := h
 clear h
 replace H := Option.bind_eq_some_iff.mp H
 obtain ⟨t292, A20, H⟩ := H
 replace H : (if t292 < 0 then ((errors_New.f (⟨#[109, 105, 115, 115, 105, 110, 103, 32, 99, 108, 111, 115, 105, 110, 103]⟩ : ByteArray)).bind fun t293 => (some (a0, (⟨#[]⟩ : ByteArray), t293))) else (if t292 = 0 then (fastjson_parseRawString.j0 k a0 t292 true) else (if 0 ≤ (wrap64 (t292 - 1)) then (if (wrap64 (t292 - 1)) < (a0.size : Int) then (fastjson_parseRawString.j0 k a0 t292 ((bt a0 (wrap64 (t292 - 1))) != 92)) else (none)) else (none)))) = some (r1, r2, r3) := H
 have A2 := Aside0.mk A20
 clear A20
 by_cases c3 : t292 < 0
 ·
  rw [if_pos c3] at H
  have c3b0 : decide (t292 < 0) = true := decide_eq_true c3
  clear c3
  replace H := Option.bind_eq_some_iff.mp H
  obtain ⟨t293, A40, H⟩ := H
  replace H : (some (a0, (⟨#[]⟩ : ByteArray), t293)) = some (r1, r2, r3) := H
  have A4 := Aside0.mk A40
  clear A40
  simp only [Option.some.injEq, Prod.mk.injEq] at H
  obtain ⟨rfl, rfl, rfl⟩ := H
  go_enter Tryd.func61, Tryd.ntmps61
  iterate 5 (try go_wp2_with (first | (go_at_call 72; (with_reducible refine (strings_IndexByte.calls a0 34 t292 _ A2.out).mono ?_); rintro e w' ⟨rfl, ⟨nd, rfl⟩⟩; (try first | ((with_reducible refine ⟨?_, _, World.drewN_drewN _ _ _⟩); rfl) | ((with_reducible refine ⟨?_, _, Eq.trans (World.drewN_drewN _ _ _) (congrArg (World.drewN _) (Nat.add_assoc _ _ _))⟩); rfl))) | (go_at_call 37; (with_reducible refine (errors_New.calls (⟨#[109, 105, 115, 115, 105, 110, 103, 32, 99, 108, 111, 115, 105, 110, 103]⟩ : ByteArray) t293 _ A4.out).mono ?_); rintro e w5 ⟨evt293, rfl, hb⟩; have n0_ := Aside0.mk (below_step (by repeat (first | (with_reducible first | exact HB.out | apply below_alloc | apply pw_below_drewN | apply below_drew1) | exact HB.out)) hb); clear HB; have HB := n0_; clear n0_; (try clear hb); (try clear hb2); (try clear hk); (try clear hi); (try simp only [errX_none, errX_some]))); try go_quiet (first | (go_at_call 72; (with_reducible refine (strings_IndexByte.calls a0 34 t292 _ A2.out).mono ?_); rintro e w' ⟨rfl, ⟨nd, rfl⟩⟩; (try first | ((with_reducible refine ⟨?_, _, World.drewN_drewN _ _ _⟩); rfl) | ((with_reducible refine ⟨?_, _, Eq.trans (World.drewN_drewN _ _ _) (congrArg (World.drewN _) (Nat.add_assoc _ _ _))⟩); rfl))) | (go_at_call 37; (with_reducible refine (errors_New.calls (⟨#[109, 105, 115, 115, 105, 110, 103, 32, 99, 108, 111, 115, 105, 110, 103]⟩ : ByteArray) t293 _ A4.out).mono ?_); rintro e w5 ⟨evt293, rfl, hb⟩; have n0_ := Aside0.mk (below_step (by repeat (first | (with_reducible first | exact HB.out | apply below_alloc | apply pw_below_drewN | apply below_drew1) | exact HB.out)) hb); clear HB; have HB := n0_; clear n0_; (try clear hb); (try clear hb2); (try clear hk); (try clear hi); (try simp only [errX_none, errX_some]))))
  go_ret3
  first | exact ⟨evt293, by first | rfl | (simp [errX_none, errX_some] <;> rfl) | (simp [*, errX_none, errX_some] <;> rfl), by repeat (first | (with_reducible first | exact HB.out | apply below_alloc | apply pw_below_drewN | apply below_drew1) | exact HB.out)⟩ | exact ⟨⟨(evt293).1, (evt293).2, by first | rfl | (simp [errX_none, errX_some] <;> rfl) | (simp [*, errX_none, errX_some] <;> rfl)⟩, by repeat (first | (with_reducible first | exact HB.out | apply below_alloc | apply pw_below_drewN | apply below_drew1) | exact HB.out)⟩
 rw [if_neg c3] at H
 have c3b0 : decide (t292 < 0) = false := decide_eq_false c3
 clear c3
 have HC6 := Aside0.mk H
 clear H
 go_enter Tryd.func61, Tryd.ntmps61
 go_upto_region 4 with (first | (go_at_call 72; (with_reducible refine (strings_IndexByte.calls a0 34 t292 _ A2.out).mono ?_); rintro e w' ⟨rfl, ⟨nd, rfl⟩⟩; (try first | ((with_reducible refine ⟨?_, _, World.drewN_drewN _ _ _⟩); rfl) | ((with_reducible refine ⟨?_, _, Eq.trans (World.drewN_drewN _ _ _) (congrArg (World.drewN _) (Nat.add_assoc _ _ _))⟩); rfl))))
 repeat (go_quiet (first | (go_at_call 72; (with_reducible refine (strings_IndexByte.calls a0 34 t292 _ A2.out).mono ?_); rintro e w' ⟨rfl, ⟨nd, rfl⟩⟩; (try first | ((with_reducible refine ⟨?_, _, World.drewN_drewN _ _ _⟩); rfl) | ((with_reducible refine ⟨?_, _, Eq.trans (World.drewN_drewN _ _ _) (congrArg (World.drewN _) (Nat.add_assoc _ _ _))⟩); rfl)))); go_upto_region 4 with (first | (go_at_call 72; (with_reducible refine (strings_IndexByte.calls a0 34 t292 _ A2.out).mono ?_); rintro e w' ⟨rfl, ⟨nd, rfl⟩⟩; (try first | ((with_reducible refine ⟨?_, _, World.drewN_drewN _ _ _⟩); rfl) | ((with_reducible refine ⟨?_, _, Eq.trans (World.drewN_drewN _ _ _) (congrArg (World.drewN _) (Nat.add_assoc _ _ _))⟩); rfl)))))
 (try simp only [Act.put, List.setIfInBounds_toArray, List.set_cons_zero, List.set_cons_succ])
 go_cut [22] (fun v22 wc => ∃ (kq : Nat) (x22_5 : Bool), v22 = .bool x22_5 ∧ Aside0 (fastjson_parseRawString.j0 kq a0 t292 x22_5 = some (r1, r2, r3)) ∧ Aside0 (kq ≤ k) ∧ Aside0 (Below w.heap.size w wc))
 case first =>
  have H := HC6.out
  clear HC6
  by_cases c7 : t292 = 0
  ·
   rw [if_pos c7] at H
   have c7b0 : (t292 == 0) = true := beq_iff_eq.mpr c7
   have c7b1 : (t292 != 0) = false := bne_eq_false_iff_eq.mpr c7
   clear c7
   (first | rw [c7b0] | (simp only [i64_w, i32_w]; rw [c7b0]) | rw [c7b1] | skip)
   have H' := Aside0.mk H
   clear H
   go_wp2
   repeat (go_quiet (fail); try go_wp2)
   go_meet
   case rel => exact ⟨_, (true), (by first | rfl | (simp; done) | (simp [nil_ne_, nil_eq_]; done) | (simp [*]; done)), H', ⟨by first | omega | exact Nat.le_refl _⟩, ⟨by repeat (first | (with_reducible first | exact HB.out | apply below_alloc | apply pw_below_drewN | apply below_drew1) | exact HB.out)⟩⟩
  rw [if_neg c7] at H
  have c7b0 : (t292 == 0) = false := beq_eq_false_iff_ne.mpr c7
  have c7b1 : (t292 != 0) = true := bne_iff_ne.mpr c7
  (first | rw [c7b0] | (simp only [i64_w, i32_w]; rw [c7b0]) | rw [c7b1] | skip)
  obtain ⟨ji8, hji8⟩ : ∃ j_ : Int, (wrap64 (t292 - 1)) = j_ := ⟨_, rfl⟩
  replace H : (if 0 ≤ (ji8) then (if (ji8) < (a0.size : Int) then (fastjson_parseRawString.j0 k a0 t292 ((bt a0 (ji8)) != 92)) else (none)) else (none)) = some (r1, r2, r3) := by first | (rw [hji8] at H; exact H) | (simp only [hji8] at H ⊢; exact H)
  have hji8w : (IntKind.i64.wrap (t292 - 1)) = ji8 := (i64_w _).trans hji8
  by_cases c9 : 0 ≤ (ji8)
  ·
   rw [if_pos c9] at H
   have c9b0 : decide (0 ≤ (ji8)) = true := decide_eq_true c9
   clear c9
   by_cases c10 : (ji8) < (a0.size : Int)
   ·
    rw [if_pos c10] at H
    have c10b0 : decide ((ji8) < (a0.size : Int)) = true := decide_eq_true c10
    clear c10
    have H' := Aside0.mk H
    clear H
    have p11 : 0 ≤ ((ji8) : Int) := of_decide_eq_true (by first | (with_reducible assumption) | assumption)
    have q11 : (ji8) < (a0.size : Int) := of_decide_eq_true (by first | (with_reducible assumption) | assumption)
    have hx11 := bt_at a0 (ji8)
    replace p11 := eq_true p11
    replace q11 := eq_true q11
    go_wp2
    repeat (go_quiet (fail); try go_wp2)
    go_meet
    case rel => exact ⟨_, (((bt a0 (ji8)) != 92)), (by first | rfl | (simp; done) | (simp only [← hji8] <;> (first | rfl | simp); done) | (simp [nil_ne_, nil_eq_]; done) | (simp [*]; done)), (by first | exact H' | (rw [hji8]; exact H') | (simp only [hji8]; exact H') | (simp only [hji8] at H' ⊢; exact H')), ⟨by first | omega | exact Nat.le_refl _⟩, ⟨by repeat (first | (with_reducible first | exact HB.out | apply below_alloc | apply pw_below_drewN | apply below_drew1) | exact HB.out)⟩⟩
   rw [if_neg c10] at H
   exact absurd H (by simp)
  rw [if_neg c9] at H
  exact absurd H (by simp)
 clear HC6
 try clear c1
 try clear p1
 try clear q1
 try clear hx1
 try clear p2
 try clear c3
 try clear c3b0
 try clear c6
 try clear p6
 try clear c7
 try clear c7b0
 try clear c7b1
 try clear c9
 try clear c9b0
 try clear c10
 try clear c10b0
 try clear p11
 try clear q11
 try clear hx11
 try clear p11
 try clear q11
 obtain ⟨kq, x22_5, rfl, HA, HJ5, HB⟩ := hcut
 rcases kq with _ | kj5
 · exact absurd HA.out (by simp [fastjson_parseRawString.j0])
 have H := HA.out
 clear HA
 simp only [fastjson_parseRawString.j0] at H
 by_cases c12 : x22_5 = true
 ·
  subst c12
  have H1 : (if 0 ≤ t292 then (if t292 ≤ (a0.size : Int) then (if 0 ≤ (wrap64 (t292 + 1)) then (if (wrap64 (t292 + 1)) ≤ (a0.size : Int) then (some (a0.extract 0 (t292 : Int).toNat, a0.extract ((wrap64 (t292 + 1)) : Int).toNat a0.size, none)) else (none)) else (none)) else (none)) else (none)) = some (r1, r2, r3) := by rw [if_pos rfl] at H; exact H
  clear H
  have H := H1
  clear H1
  by_cases c13 : 0 ≤ t292
  ·
   rw [if_pos c13] at H
   have c13b0 := eq_true c13
   have c13b1 : decide (0 ≤ t292) = true := decide_eq_true c13
   clear c13
   by_cases c14 : t292 ≤ (a0.size : Int)
   ·
    rw [if_pos c14] at H
    have c14b0 := eq_true c14
    have c14b1 : decide (t292 ≤ (a0.size : Int)) = true := decide_eq_true c14
    clear c14
    obtain ⟨js15, hjs15⟩ : ∃ j_ : ByteArray, (a0.extract 0 (t292 : Int).toNat) = j_ := ⟨_, rfl⟩
    skip
    replace H : (if 0 ≤ (wrap64 (t292 + 1)) then (if (wrap64 (t292 + 1)) ≤ (a0.size : Int) then (some (js15, a0.extract ((wrap64 (t292 + 1)) : Int).toNat a0.size, none)) else (none)) else (none)) = some (r1, r2, r3) := by first | (rw [hjs15] at H; exact H) | (simp only [hjs15] at H ⊢; exact H)
    obtain ⟨ji16, hji16⟩ : ∃ j_ : Int, (wrap64 (t292 + 1)) = j_ := ⟨_, rfl⟩
    replace H : (if 0 ≤ (ji16) then (if (ji16) ≤ (a0.size : Int) then (some (js15, a0.extract ((ji16) : Int).toNat a0.size, none)) else (none)) else (none)) = some (r1, r2, r3) := by first | (rw [hji16] at H; exact H) | (simp only [hji16] at H ⊢; exact H)
    have hji16w : (IntKind.i64.wrap (t292 + 1)) = ji16 := (i64_w _).trans hji16
    by_cases c17 : 0 ≤ (ji16)
    ·
     rw [if_pos c17] at H
     have c17b0 := eq_true c17
     have c17b1 : decide (0 ≤ (ji16)) = true := decide_eq_true c17
     clear c17
     by_cases c18 : (ji16) ≤ (a0.size : Int)
     ·
      rw [if_pos c18] at H
      have c18b0 := eq_true c18
      have c18b1 : decide ((ji16) ≤ (a0.size : Int)) = true := decide_eq_true c18
      clear c18
      obtain ⟨js19, hjs19⟩ : ∃ j_ : ByteArray, (a0.extract ((ji16) : Int).toNat a0.size) = j_ := ⟨_, rfl⟩
      skip
      replace H : (some (js15, js19, none)) = some (r1, r2, r3) := by first | (rw [hjs19] at H; exact H) | (simp only [hjs19] at H ⊢; exact H)
      simp only [Option.some.injEq, Prod.mk.injEq] at H
      obtain ⟨rfl, rfl, rfl⟩ := H
      go_wp2
      repeat (go_quiet (fail); try go_wp2)
      go_ret3
      first | exact ⟨(0, Value.nilIface), by first | rfl | (simp [errX_none, errX_some] <;> rfl) | (simp only [← hjs15, ← hji16, ← hjs19]; first | rfl | (simp [errX_none, errX_some] <;> rfl)) | (simp [*, errX_none, errX_some] <;> rfl), by repeat (first | (with_reducible first | exact HB.out | apply below_alloc | apply pw_below_drewN | apply below_drew1) | exact HB.out)⟩ | exact ⟨⟨((0, Value.nilIface)).1, ((0, Value.nilIface)).2, by first | rfl | (simp [errX_none, errX_some] <;> rfl) | (simp only [← hjs15, ← hji16, ← hjs19]; first | rfl | (simp [errX_none, errX_some] <;> rfl)) | (simp [*, errX_none, errX_some] <;> rfl)⟩, by repeat (first | (with_reducible first | exact HB.out | apply below_alloc | apply pw_below_drewN | apply below_drew1) | exact HB.out)⟩
     rw [if_neg c18] at H
     exact absurd H (by simp)
    rw [if_neg c17] at H
    exact absurd H (by simp)
   rw [if_neg c14] at H
   exact absurd H (by simp)
  rw [if_neg c13] at H
  exact absurd H (by simp)
 replace c12 := Bool.eq_false_iff.mpr c12
 subst c12
 have H1 : (fastjson_parseRawString.l0 kj5 a0 t292 a0) = some (r1, r2, r3) := by rw [if_neg (show ¬ (false = true) by decide)] at H; exact H
 clear H
 have H := H1
 clear H1
 have H' := Aside0.mk H
 clear H
 go_wp2
 repeat (go_quiet (fail); try go_wp2)
 try simp only [Act.put, List.setIfInBounds_toArray, List.set_cons_succ, List.set_cons_zero]
 go_loopg [0, 5] kj5 (fun kq v0 v5 w' => ∃ (x0_2 : ByteArray) (x5_2 : Int), v0 = .string x0_2 ∧ v5 = .int .i64 x5_2 ∧ Aside0 (fastjson_parseRawString.l0 kq x0_2 x5_2 a0 = some (r1, r2, r3)) ∧ Aside0 (kq ≤ kj5) ∧ Aside0 (Below w.heap.size w w'))
 case atStart => exact ⟨(a0), (t292), (by first | rfl | (simp; done) | (simp [nil_ne_, nil_eq_]; done) | (simp [*]; done)), (by first | rfl | (simp; done) | (simp [nil_ne_, nil_eq_]; done) | (simp [*]; done)), H', ⟨Nat.le_refl _⟩, ⟨by repeat (first | (with_reducible first | exact HB.out | apply below_alloc | apply pw_below_drewN | apply below_drew1) | exact HB.out)⟩⟩
 case round =>
  clear H'
  try clear c1
  try clear p1
  try clear q1
  try clear hx1
  try clear p2
  try clear c3
  try clear c3b0
  try clear c6
  try clear p6
  try clear c7
  try clear c7b0
  try clear c7b1
  try clear c9
  try clear c9b0
  try clear c10
  try clear c10b0
  try clear p11
  try clear q11
  try clear hx11
  try clear c12
  try clear c13
  try clear c13b0
  try clear c13b1
  try clear c14
  try clear c14b0
  try clear c14b1
  try clear c17
  try clear c17b0
  try clear c17b1
  try clear c18
  try clear c18b0
  try clear c18b1
  try clear p1
  try clear p11
  try clear p2
  try clear p6
  try clear q1
  try clear q11
  obtain ⟨x0_2, x5_2, rfl, rfl, HA, HK2, HB⟩ := hrel
  rcases gk with _ | k2
  · exact absurd HA.out (by simp [fastjson_parseRawString.l0])
  have H := HA.out
  clear HA
  simp only [fastjson_parseRawString.l0] at H
  have HC20 := Aside0.mk H
  clear H
  go_upto_block 2 with (fail)
  repeat (go_quiet (fail); go_upto_block 2 with (fail))
  go_cut [7] (fun v7 wc => ∃ (kq : Nat) (x7_19 : Int), v7 = .int .i64 x7_19 ∧ Aside0 (fastjson_parseRawString.j3 kq x0_2 x5_2 a0 x7_19 = some (r1, r2, r3)) ∧ Aside0 (kq ≤ k2) ∧ Aside0 (Below w.heap.size w wc))
  case first =>
   have H := HC20.out
   clear HC20
   have H' := Aside0.mk H
   clear H
   go_wp2
   repeat (go_quiet (fail); try go_wp2)
   try simp only [Act.put, List.setIfInBounds_toArray, List.set_cons_succ, List.set_cons_zero]
   go_loopg [7] k2 (fun kq v7 w' => ∃ (x7_3 : Int), v7 = .int .i64 x7_3 ∧ Aside0 (fastjson_parseRawString.l1 kq x0_2 x5_2 a0 x7_3 = some (r1, r2, r3)) ∧ Aside0 (kq ≤ k2) ∧ Aside0 (Below w.heap.size w w'))
   case atStart => exact ⟨(wrap64 (x5_2 - 1)), (by first | rfl | (simp; done) | (simp [nil_ne_, nil_eq_]; done) | (simp [*]; done)), H', ⟨Nat.le_refl _⟩, ⟨by repeat (first | (with_reducible first | exact HB.out | apply below_alloc | apply pw_below_drewN | apply below_drew1) | exact HB.out)⟩⟩
   case round =>
    clear H'
    try clear c1
    try clear p1
    try clear q1
    try clear hx1
    try clear p2
    try clear c3
    try clear c3b0
    try clear c6
    try clear p6
    try clear c7
    try clear c7b0
    try clear c7b1
    try clear c9
    try clear c9b0
    try clear c10
    try clear c10b0
    try clear p11
    try clear q11
    try clear hx11
    try clear c12
    try clear c13
    try clear c13b0
    try clear c13b1
    try clear c14
    try clear c14b0
    try clear c14b1
    try clear c17
    try clear c17b0
    try clear c17b1
    try clear c18
    try clear c18b0
    try clear c18b1
    try clear p1
    try clear p11
    try clear p2
    try clear p6
    try clear q1
    try clear q11
    obtain ⟨x7_3, rfl, HA, HK3, HB⟩ := hrel
    rcases gk with _ | k3
    · exact absurd HA.out (by simp [fastjson_parseRawString.l1])
    have H := HA.out
    clear HA
    simp only [fastjson_parseRawString.l1] at H
    by_cases c21 : x7_3 > 0
    ·
     rw [if_pos c21] at H
     have c21b0 : decide (0 < x7_3) = true := decide_eq_true c21
     clear c21
     (first | rw [c21b0] | (simp only [i64_w, i32_w]; rw [c21b0]) | rw [c21b1] | skip)
     obtain ⟨ji22, hji22⟩ : ∃ j_ : Int, (wrap64 (x7_3 - 1)) = j_ := ⟨_, rfl⟩
     replace H : (if 0 ≤ (ji22) then (if (ji22) < (x0_2.size : Int) then (if (bt x0_2 (ji22)) = 92 then (fastjson_parseRawString.l1 k3 x0_2 x5_2 a0 ji22) else (fastjson_parseRawString.j3 k3 x0_2 x5_2 a0 x7_3)) else (none)) else (none)) = some (r1, r2, r3) := by first | (rw [hji22] at H; exact H) | (simp only [hji22] at H ⊢; exact H)
     have hji22w : (IntKind.i64.wrap (x7_3 - 1)) = ji22 := (i64_w _).trans hji22
     by_cases c23 : 0 ≤ (ji22)
     ·
      rw [if_pos c23] at H
      have c23b0 : decide (0 ≤ (ji22)) = true := decide_eq_true c23
      clear c23
      by_cases c24 : (ji22) < (x0_2.size : Int)
      ·
       rw [if_pos c24] at H
       have c24b0 : decide ((ji22) < (x0_2.size : Int)) = true := decide_eq_true c24
       clear c24
       by_cases c26 : (bt x0_2 (ji22)) = 92
       ·
        rw [if_pos c26] at H
        have c26b0 : ((bt x0_2 (ji22)) == 92) = true := beq_iff_eq.mpr c26
        have c26b1 : ((bt x0_2 (ji22)) != 92) = false := bne_eq_false_iff_eq.mpr c26
        clear c26
        have H' := Aside0.mk H
        clear H
        have p25 : 0 ≤ ((ji22) : Int) := of_decide_eq_true (by first | (with_reducible assumption) | assumption)
        have q25 : (ji22) < (x0_2.size : Int) := of_decide_eq_true (by first | (with_reducible assumption) | assumption)
        have hx25 := bt_at x0_2 (ji22)
        replace p25 := eq_true p25
        replace q25 := eq_true q25
        go_wp2
        repeat (go_quiet (fail); try go_wp2)
        go_roundg k3
        case measure => have := HJ5.out; have := HK2.out; have := HK3.out; omega
        case rel => exact ⟨(ji22), (by first | rfl | (simp; done) | (simp only [← hji22] <;> (first | rfl | simp); done) | (simp [nil_ne_, nil_eq_]; done) | (simp [*]; done)), (by first | exact H' | (rw [hji22]; exact H') | (simp only [hji22]; exact H') | (simp only [hji22] at H' ⊢; exact H')), ⟨by have := HJ5.out; have := HK2.out; have := HK3.out; omega⟩, ⟨by repeat (first | (with_reducible first | exact HB.out | apply below_alloc | apply pw_below_drewN | apply below_drew1) | exact HB.out)⟩⟩
       rw [if_neg c26] at H
       have c26b0 : ((bt x0_2 (ji22)) == 92) = false := beq_eq_false_iff_ne.mpr c26
       have c26b1 : ((bt x0_2 (ji22)) != 92) = true := bne_iff_ne.mpr c26
       have H' := Aside0.mk H
       clear H
       have p25 : 0 ≤ ((ji22) : Int) := of_decide_eq_true (by first | (with_reducible assumption) | assumption)
       have q25 : (ji22) < (x0_2.size : Int) := of_decide_eq_true (by first | (with_reducible assumption) | assumption)
       have hx25 := bt_at x0_2 (ji22)
       replace p25 := eq_true p25
       replace q25 := eq_true q25
       go_wp2
       repeat (go_quiet (fail); try go_wp2)
       go_meet
       case rel => exact ⟨_, (x7_3), (by first | rfl | (simp; done) | (simp [nil_ne_, nil_eq_]; done) | (simp [*]; done)), (by first | exact H' | (rw [hji22]; exact H') | (simp only [hji22]; exact H') | (simp only [hji22] at H' ⊢; exact H')), ⟨by have := HJ5.out; have := HK2.out; have := HK3.out; first | omega | exact Nat.le_refl _⟩, ⟨by repeat (first | (with_reducible first | exact HB.out | apply below_alloc | apply pw_below_drewN | apply below_drew1) | exact HB.out)⟩⟩
      rw [if_neg c24] at H
      exact absurd H (by simp)
     rw [if_neg c23] at H
     exact absurd H (by simp)
    rw [if_neg c21] at H
    have c21b0 : decide (0 < x7_3) = false := decide_eq_false c21
    clear c21
    (first | rw [c21b0] | (simp only [i64_w, i32_w]; rw [c21b0]) | rw [c21b1] | skip)
    have H' := Aside0.mk H
    clear H
    go_wp2
    repeat (go_quiet (fail); try go_wp2)
    go_meet
    case rel => exact ⟨_, (x7_3), (by first | rfl | (simp; done) | (simp [nil_ne_, nil_eq_]; done) | (simp [*]; done)), H', ⟨by have := HJ5.out; have := HK2.out; have := HK3.out; first | omega | exact Nat.le_refl _⟩, ⟨by repeat (first | (with_reducible first | exact HB.out | apply below_alloc | apply pw_below_drewN | apply below_drew1) | exact HB.out)⟩⟩
  clear HC20
  try clear c1
  try clear p1
  try clear q1
  try clear hx1
  try clear c2
  try clear p2
  try clear q2
  try clear hx2
  try clear c3
  try clear c3b0
  try clear c6
  try clear p6
  try clear c7
  try clear c7b0
  try clear c7b1
  try clear c9
  try clear c9b0
  try clear c10
  try clear c10b0
  try clear p11
  try clear q11
  try clear hx11
  try clear c12
  try clear c13
  try clear c13b0
  try clear c13b1
  try clear c14
  try clear c14b0
  try clear c14b1
  try clear c17
  try clear c17b0
  try clear c17b1
  try clear c18
  try clear c18b0
  try clear c18b1
  try clear c21
  try clear c21b0
  try clear c21b1
  try clear c23
  try clear c23b0
  try clear c24
  try clear c24b0
  try clear p25
  try clear q25
  try clear hx25
  try clear c26
  try clear c26b0
  try clear c26b1
  try clear p1
  try clear p11
  try clear p2
  try clear p25
  try clear p6
  try clear q1
  try clear q11
  try clear q25
  obtain ⟨kq, x7_19, rfl, HA, HJ19, HB⟩ := hcut
  rcases kq with _ | kj19
  · exact absurd HA.out (by simp [fastjson_parseRawString.j3])
  have H := HA.out
  clear HA
  simp only [fastjson_parseRawString.j3] at H
  by_cases c27 : (Int.tmod (IntKind.u64.wrap (wrap64 (x5_2 - x7_19))) 2) = 0
  ·
   rw [if_pos c27] at H
   have c27b0 : ((Int.tmod (IntKind.u64.wrap (wrap64 (x5_2 - x7_19))) 2) == 0) = true := beq_iff_eq.mpr c27
   have c27b1 : ((Int.tmod (IntKind.u64.wrap (wrap64 (x5_2 - x7_19))) 2) != 0) = false := bne_eq_false_iff_eq.mpr c27
   clear c27
   obtain ⟨ji28, hji28⟩ : ∃ j_ : Int, (wrap64 ((wrap64 ((a0.size : Int) - (x0_2.size : Int))) + x5_2)) = j_ := ⟨_, rfl⟩
   replace H : (if 0 ≤ (ji28) then (if (ji28) ≤ (a0.size : Int) then (if 0 ≤ (wrap64 (x5_2 + 1)) then (if (wrap64 (x5_2 + 1)) ≤ (x0_2.size : Int) then (some (a0.extract 0 ((ji28) : Int).toNat, x0_2.extract ((wrap64 (x5_2 + 1)) : Int).toNat x0_2.size, none)) else (none)) else (none)) else (none)) else (none)) = some (r1, r2, r3) := by first | (rw [hji28] at H; exact H) | (simp only [hji28] at H ⊢; exact H)
   have hji28w : (IntKind.i64.wrap ((wrap64 ((a0.size : Int) - (x0_2.size : Int))) + x5_2)) = ji28 := (i64_w _).trans hji28
   by_cases c29 : 0 ≤ (ji28)
   ·
    rw [if_pos c29] at H
    have c29b0 := eq_true c29
    have c29b1 : decide (0 ≤ (ji28)) = true := decide_eq_true c29
    clear c29
    by_cases c30 : (ji28) ≤ (a0.size : Int)
    ·
     rw [if_pos c30] at H
     have c30b0 := eq_true c30
     have c30b1 : decide ((ji28) ≤ (a0.size : Int)) = true := decide_eq_true c30
     clear c30
     obtain ⟨js31, hjs31⟩ : ∃ j_ : ByteArray, (a0.extract 0 ((ji28) : Int).toNat) = j_ := ⟨_, rfl⟩
     skip
     replace H : (if 0 ≤ (wrap64 (x5_2 + 1)) then (if (wrap64 (x5_2 + 1)) ≤ (x0_2.size : Int) then (some (js31, x0_2.extract ((wrap64 (x5_2 + 1)) : Int).toNat x0_2.size, none)) else (none)) else (none)) = some (r1, r2, r3) := by first | (rw [hjs31] at H; exact H) | (simp only [hjs31] at H ⊢; exact H)
     obtain ⟨ji32, hji32⟩ : ∃ j_ : Int, (wrap64 (x5_2 + 1)) = j_ := ⟨_, rfl⟩
     replace H : (if 0 ≤ (ji32) then (if (ji32) ≤ (x0_2.size : Int) then (some (js31, x0_2.extract ((ji32) : Int).toNat x0_2.size, none)) else (none)) else (none)) = some (r1, r2, r3) := by first | (rw [hji32] at H; exact H) | (simp only [hji32] at H ⊢; exact H)
     have hji32w : (IntKind.i64.wrap (x5_2 + 1)) = ji32 := (i64_w _).trans hji32
     by_cases c33 : 0 ≤ (ji32)
     ·
      rw [if_pos c33] at H
      have c33b0 := eq_true c33
      have c33b1 : decide (0 ≤ (ji32)) = true := decide_eq_true c33
      clear c33
      by_cases c34 : (ji32) ≤ (x0_2.size : Int)
      ·
       rw [if_pos c34] at H
       have c34b0 := eq_true c34
       have c34b1 : decide ((ji32) ≤ (x0_2.size : Int)) = true := decide_eq_true c34
       clear c34
       obtain ⟨js35, hjs35⟩ : ∃ j_ : ByteArray, (x0_2.extract ((ji32) : Int).toNat x0_2.size) = j_ := ⟨_, rfl⟩
       skip
       replace H : (some (js31, js35, none)) = some (r1, r2, r3) := by first | (rw [hjs35] at H; exact H) | (simp only [hjs35] at H ⊢; exact H)
       simp only [Option.some.injEq, Prod.mk.injEq] at H
       obtain ⟨rfl, rfl, rfl⟩ := H
       go_wp2
       repeat (go_quiet (fail); try go_wp2)
       go_ret3
       first | exact ⟨(0, Value.nilIface), by first | rfl | (simp [errX_none, errX_some] <;> rfl) | (simp only [← hji28, ← hjs31, ← hji32, ← hjs35]; first | rfl | (simp [errX_none, errX_some] <;> rfl)) | (simp [*, errX_none, errX_some] <;> rfl), by repeat (first | (with_reducible first | exact HB.out | apply below_alloc | apply pw_below_drewN | apply below_drew1) | exact HB.out)⟩ | exact ⟨⟨((0, Value.nilIface)).1, ((0, Value.nilIface)).2, by first | rfl | (simp [errX_none, errX_some] <;> rfl) | (simp only [← hji28, ← hjs31, ← hji32, ← hjs35]; first | rfl | (simp [errX_none, errX_some] <;> rfl)) | (simp [*, errX_none, errX_some] <;> rfl)⟩, by repeat (first | (with_reducible first | exact HB.out | apply below_alloc | apply pw_below_drewN | apply below_drew1) | exact HB.out)⟩
      rw [if_neg c34] at H
      exact absurd H (by simp)
     rw [if_neg c33] at H
     exact absurd H (by simp)
    rw [if_neg c30] at H
    exact absurd H (by simp)
   rw [if_neg c29] at H
   exact absurd H (by simp)
  rw [if_neg c27] at H
  have c27b0 : ((Int.tmod (IntKind.u64.wrap (wrap64 (x5_2 - x7_19))) 2) == 0) = false := beq_eq_false_iff_ne.mpr c27
  have c27b1 : ((Int.tmod (IntKind.u64.wrap (wrap64 (x5_2 - x7_19))) 2) != 0) = true := bne_iff_ne.mpr c27
  obtain ⟨ji36, hji36⟩ : ∃ j_ : Int, (wrap64 (x5_2 + 1)) = j_ := ⟨_, rfl⟩
  replace H : (if 0 ≤ (ji36) then (if (ji36) ≤ (x0_2.size : Int) then ((strings_IndexByte.f (x0_2.extract ((ji36) : Int).toNat x0_2.size) 34).bind fun t294 => (if t294 < 0 then ((errors_New.f (⟨#[109, 105, 115, 115, 105, 110, 103, 32, 99, 108, 111, 115, 105, 110, 103]⟩ : ByteArray)).bind fun t295 => (some (a0, (⟨#[]⟩ : ByteArray), t295))) else (if t294 = 0 then (if 0 ≤ (wrap64 ((wrap64 ((a0.size : Int) - ((x0_2.extract ((ji36) : Int).toNat x0_2.size).size : Int))) + t294)) then (if (wrap64 ((wrap64 ((a0.size : Int) - ((x0_2.extract ((ji36) : Int).toNat x0_2.size).size : Int))) + t294)) ≤ (a0.size : Int) then (if 0 ≤ (wrap64 (t294 + 1)) then (if (wrap64 (t294 + 1)) ≤ ((x0_2.extract ((ji36) : Int).toNat x0_2.size).size : Int) then (some (a0.extract 0 ((wrap64 ((wrap64 ((a0.size : Int) - ((x0_2.extract ((ji36) : Int).toNat x0_2.size).size : Int))) + t294)) : Int).toNat, (x0_2.extract ((ji36) : Int).toNat x0_2.size).extract ((wrap64 (t294 + 1)) : Int).toNat (x0_2.extract ((ji36) : Int).toNat x0_2.size).size, none)) else (none)) else (none)) else (none)) else (none)) else (if 0 ≤ (wrap64 (t294 - 1)) then (if (wrap64 (t294 - 1)) < ((x0_2.extract ((ji36) : Int).toNat x0_2.size).size : Int) then (if (bt (x0_2.extract ((ji36) : Int).toNat x0_2.size) (wrap64 (t294 - 1))) = 92 then (fastjson_parseRawString.l0 kj19 (x0_2.extract ((ji36) : Int).toNat x0_2.size) t294 a0) else (if 0 ≤ (wrap64 ((wrap64 ((a0.size : Int) - ((x0_2.extract ((ji36) : Int).toNat x0_2.size).size : Int))) + t294)) then (if (wrap64 ((wrap64 ((a0.size : Int) - ((x0_2.extract ((ji36) : Int).toNat x0_2.size).size : Int))) + t294)) ≤ (a0.size : Int) then (if 0 ≤ (wrap64 (t294 + 1)) then (if (wrap64 (t294 + 1)) ≤ ((x0_2.extract ((ji36) : Int).toNat x0_2.size).size : Int) then (some (a0.extract 0 ((wrap64 ((wrap64 ((a0.size : Int) - ((x0_2.extract ((ji36) : Int).toNat x0_2.size).size : Int))) + t294)) : Int).toNat, (x0_2.extract ((ji36) : Int).toNat x0_2.size).extract ((wrap64 (t294 + 1)) : Int).toNat (x0_2.extract ((ji36) : Int).toNat x0_2.size).size, none)) else (none)) else (none)) else (none)) else (none))) else (none)) else (none))))) else (none)) else (none)) = some (r1, r2, r3) := by first | (rw [hji36] at H; exact H) | (simp only [hji36] at H ⊢; exact H)
  have hji36w : (IntKind.i64.wrap (x5_2 + 1)) = ji36 := (i64_w _).trans hji36
  by_cases c37 : 0 ≤ (ji36)
  ·
   rw [if_pos c37] at H
   have c37b0 := eq_true c37
   have c37b1 : decide (0 ≤ (ji36)) = true := decide_eq_true c37
   clear c37
   by_cases c38 : (ji36) ≤ (x0_2.size : Int)
   ·
    rw [if_pos c38] at H
    have c38b0 := eq_true c38
    have c38b1 : decide ((ji36) ≤ (x0_2.size : Int)) = true := decide_eq_true c38
    clear c38
    obtain ⟨js39, hjs39⟩ : ∃ j_ : ByteArray, (x0_2.extract ((ji36) : Int).toNat x0_2.size) = j_ := ⟨_, rfl⟩
    skip
    replace H : ((strings_IndexByte.f js39 34).bind fun t294 => (if t294 < 0 then ((errors_New.f (⟨#[109, 105, 115, 115, 105, 110, 103, 32, 99, 108, 111, 115, 105, 110, 103]⟩ : ByteArray)).bind fun t295 => (some (a0, (⟨#[]⟩ : ByteArray), t295))) else (if t294 = 0 then (if 0 ≤ (wrap64 ((wrap64 ((a0.size : Int) - (js39.size : Int))) + t294)) then (if (wrap64 ((wrap64 ((a0.size : Int) - (js39.size : Int))) + t294)) ≤ (a0.size : Int) then (if 0 ≤ (wrap64 (t294 + 1)) then (if (wrap64 (t294 + 1)) ≤ (js39.size : Int) then (some (a0.extract 0 ((wrap64 ((wrap64 ((a0.size : Int) - (js39.size : Int))) + t294)) : Int).toNat, js39.extract ((wrap64 (t294 + 1)) : Int).toNat js39.size, none)) else (none)) else (none)) else (none)) else (none)) else (if 0 ≤ (wrap64 (t294 - 1)) then (if (wrap64 (t294 - 1)) < (js39.size : Int) then (if (bt js39 (wrap64 (t294 - 1))) = 92 then (fastjson_parseRawString.l0 kj19 js39 t294 a0) else (if 0 ≤ (wrap64 ((wrap64 ((a0.size : Int) - (js39.size : Int))) + t294)) then (if (wrap64 ((wrap64 ((a0.size : Int) - (js39.size : Int))) + t294)) ≤ (a0.size : Int) then (if 0 ≤ (wrap64 (t294 + 1)) then (if (wrap64 (t294 + 1)) ≤ (js39.size : Int) then (some (a0.extract 0 ((wrap64 ((wrap64 ((a0.size : Int) - (js39.size : Int))) + t294)) : Int).toNat, js39.extract ((wrap64 (t294 + 1)) : Int).toNat js39.size, none)) else (none)) else (none)) else (none)) else (none))) else (none)) else (none))))) = some (r1, r2, r3) := by first | (rw [hjs39] at H; exact H) | (simp only [hjs39] at H ⊢; exact H)
    replace H := Option.bind_eq_some_iff.mp H
    obtain ⟨t294, A400, H⟩ := H
    replace H : (if t294 < 0 then ((errors_New.f (⟨#[109, 105, 115, 115, 105, 110, 103, 32, 99, 108, 111, 115, 105, 110, 103]⟩ : ByteArray)).bind fun t295 => (some (a0, (⟨#[]⟩ : ByteArray), t295))) else (if t294 = 0 then (if 0 ≤ (wrap64 ((wrap64 ((a0.size : Int) - (js39.size : Int))) + t294)) then (if (wrap64 ((wrap64 ((a0.size : Int) - (js39.size : Int))) + t294)) ≤ (a0.size : Int) then (if 0 ≤ (wrap64 (t294 + 1)) then (if (wrap64 (t294 + 1)) ≤ (js39.size : Int) then (some (a0.extract 0 ((wrap64 ((wrap64 ((a0.size : Int) - (js39.size : Int))) + t294)) : Int).toNat, js39.extract ((wrap64 (t294 + 1)) : Int).toNat js39.size, none)) else (none)) else (none)) else (none)) else (none)) else (if 0 ≤ (wrap64 (t294 - 1)) then (if (wrap64 (t294 - 1)) < (js39.size : Int) then (if (bt js39 (wrap64 (t294 - 1))) = 92 then (fastjson_parseRawString.l0 kj19 js39 t294 a0) else (if 0 ≤ (wrap64 ((wrap64 ((a0.size : Int) - (js39.size : Int))) + t294)) then (if (wrap64 ((wrap64 ((a0.size : Int) - (js39.size : Int))) + t294)) ≤ (a0.size : Int) then (if 0 ≤ (wrap64 (t294 + 1)) then (if (wrap64 (t294 + 1)) ≤ (js39.size : Int) then (some (a0.extract 0 ((wrap64 ((wrap64 ((a0.size : Int) - (js39.size : Int))) + t294)) : Int).toNat, js39.extract ((wrap64 (t294 + 1)) : Int).toNat js39.size, none)) else (none)) else (none)) else (none)) else (none))) else (none)) else (none)))) = some (r1, r2, r3) := H
    have A40 := Aside0.mk A400
    clear A400
    by_cases c41 : t294 < 0
    ·
     rw [if_pos c41] at H
     have c41b0 : decide (t294 < 0) = true := decide_eq_true c41
     clear c41
     replace H := Option.bind_eq_some_iff.mp H
     obtain ⟨t295, A420, H⟩ := H
     replace H : (some (a0, (⟨#[]⟩ : ByteArray), t295)) = some (r1, r2, r3) := H
     have A42 := Aside0.mk A420
     clear A420
     simp only [Option.some.injEq, Prod.mk.injEq] at H
     obtain ⟨rfl, rfl, rfl⟩ := H
     iterate 5 (try go_wp2_with (first | (go_at_call 72; (with_reducible refine (strings_IndexByte.calls js39 34 t294 _ A40.out).mono ?_); rintro e w' ⟨rfl, ⟨nd, rfl⟩⟩; (try first | ((with_reducible refine ⟨?_, _, World.drewN_drewN _ _ _⟩); rfl) | ((with_reducible refine ⟨?_, _, Eq.trans (World.drewN_drewN _ _ _) (congrArg (World.drewN _) (Nat.add_assoc _ _ _))⟩); rfl))) | (go_at_call 37; (with_reducible refine (errors_New.calls (⟨#[109, 105, 115, 115, 105, 110, 103, 32, 99, 108, 111, 115, 105, 110, 103]⟩ : ByteArray) t295 _ A42.out).mono ?_); rintro e w43 ⟨evt295, rfl, hb⟩; have n0_ := Aside0.mk (below_step (by repeat (first | (with_reducible first | exact HB.out | apply below_alloc | apply pw_below_drewN | apply below_drew1) | exact HB.out)) hb); clear HB; have HB := n0_; clear n0_; (try clear hb); (try clear hb2); (try clear hk); (try clear hi); (try simp only [errX_none, errX_some]))); try go_quiet (first | (go_at_call 72; (with_reducible refine (strings_IndexByte.calls js39 34 t294 _ A40.out).mono ?_); rintro e w' ⟨rfl, ⟨nd, rfl⟩⟩; (try first | ((with_reducible refine ⟨?_, _, World.drewN_drewN _ _ _⟩); rfl) | ((with_reducible refine ⟨?_, _, Eq.trans (World.drewN_drewN _ _ _) (congrArg (World.drewN _) (Nat.add_assoc _ _ _))⟩); rfl))) | (go_at_call 37; (with_reducible refine (errors_New.calls (⟨#[109, 105, 115, 115, 105, 110, 103, 32, 99, 108, 111, 115, 105, 110, 103]⟩ : ByteArray) t295 _ A42.out).mono ?_); rintro e w43 ⟨evt295, rfl, hb⟩; have n0_ := Aside0.mk (below_step (by repeat (first | (with_reducible first | exact HB.out | apply below_alloc | apply pw_below_drewN | apply below_drew1) | exact HB.out)) hb); clear HB; have HB := n0_; clear n0_; (try clear hb); (try clear hb2); (try clear hk); (try clear hi); (try simp only [errX_none, errX_some]))))
     go_ret3
     first | exact ⟨evt295, by first | rfl | (simp [errX_none, errX_some] <;> rfl) | (simp only [← hji36, ← hjs39]; first | rfl | (simp [errX_none, errX_some] <;> rfl)) | (simp [*, errX_none, errX_some] <;> rfl), by repeat (first | (with_reducible first | exact HB.out | apply below_alloc | apply pw_below_drewN | apply below_drew1) | exact HB.out)⟩ | exact ⟨⟨(evt295).1, (evt295).2, by first | rfl | (simp [errX_none, errX_some] <;> rfl) | (simp only [← hji36, ← hjs39]; first | rfl | (simp [errX_none, errX_some] <;> rfl)) | (simp [*, errX_none, errX_some] <;> rfl)⟩, by repeat (first | (with_reducible first | exact HB.out | apply below_alloc | apply pw_below_drewN | apply below_drew1) | exact HB.out)⟩
    rw [if_neg c41] at H
    have c41b0 : decide (t294 < 0) = false := decide_eq_false c41
    clear c41
    by_cases c44 : t294 = 0
    ·
     rw [if_pos c44] at H
     have c44b0 : (t294 == 0) = true := beq_iff_eq.mpr c44
     have c44b1 : (t294 != 0) = false := bne_eq_false_iff_eq.mpr c44
     clear c44
     obtain ⟨ji45, hji45⟩ : ∃ j_ : Int, (wrap64 ((wrap64 ((a0.size : Int) - (js39.size : Int))) + t294)) = j_ := ⟨_, rfl⟩
     replace H : (if 0 ≤ (ji45) then (if (ji45) ≤ (a0.size : Int) then (if 0 ≤ (wrap64 (t294 + 1)) then (if (wrap64 (t294 + 1)) ≤ (js39.size : Int) then (some (a0.extract 0 ((ji45) : Int).toNat, js39.extract ((wrap64 (t294 + 1)) : Int).toNat js39.size, none)) else (none)) else (none)) else (none)) else (none)) = some (r1, r2, r3) := by first | (rw [hji45] at H; exact H) | (simp only [hji45] at H ⊢; exact H)
     (try rw [hji45] at A40)
     have hji45w : (IntKind.i64.wrap ((wrap64 ((a0.size : Int) - (js39.size : Int))) + t294)) = ji45 := (i64_w _).trans hji45
     by_cases c46 : 0 ≤ (ji45)
     ·
      rw [if_pos c46] at H
      have c46b0 := eq_true c46
      have c46b1 : decide (0 ≤ (ji45)) = true := decide_eq_true c46
      clear c46
      by_cases c47 : (ji45) ≤ (a0.size : Int)
      ·
       rw [if_pos c47] at H
       have c47b0 := eq_true c47
       have c47b1 : decide ((ji45) ≤ (a0.size : Int)) = true := decide_eq_true c47
       clear c47
       obtain ⟨js48, hjs48⟩ : ∃ j_ : ByteArray, (a0.extract 0 ((ji45) : Int).toNat) = j_ := ⟨_, rfl⟩
       skip
       replace H : (if 0 ≤ (wrap64 (t294 + 1)) then (if (wrap64 (t294 + 1)) ≤ (js39.size : Int) then (some (js48, js39.extract ((wrap64 (t294 + 1)) : Int).toNat js39.size, none)) else (none)) else (none)) = some (r1, r2, r3) := by first | (rw [hjs48] at H; exact H) | (simp only [hjs48] at H ⊢; exact H)
       obtain ⟨ji49, hji49⟩ : ∃ j_ : Int, (wrap64 (t294 + 1)) = j_ := ⟨_, rfl⟩
       replace H : (if 0 ≤ (ji49) then (if (ji49) ≤ (js39.size : Int) then (some (js48, js39.extract ((ji49) : Int).toNat js39.size, none)) else (none)) else (none)) = some (r1, r2, r3) := by first | (rw [hji49] at H; exact H) | (simp only [hji49] at H ⊢; exact H)
       (try rw [hji49] at A40)
       have hji49w : (IntKind.i64.wrap (t294 + 1)) = ji49 := (i64_w _).trans hji49
       by_cases c50 : 0 ≤ (ji49)
       ·
        rw [if_pos c50] at H
        have c50b0 := eq_true c50
        have c50b1 : decide (0 ≤ (ji49)) = true := decide_eq_true c50
        clear c50
        by_cases c51 : (ji49) ≤ (js39.size : Int)
        ·
         rw [if_pos c51] at H
         have c51b0 := eq_true c51
         have c51b1 : decide ((ji49) ≤ (js39.size : Int)) = true := decide_eq_true c51
         clear c51
         obtain ⟨js52, hjs52⟩ : ∃ j_ : ByteArray, (js39.extract ((ji49) : Int).toNat js39.size) = j_ := ⟨_, rfl⟩
         skip
         replace H : (some (js48, js52, none)) = some (r1, r2, r3) := by first | (rw [hjs52] at H; exact H) | (simp only [hjs52] at H ⊢; exact H)
         simp only [Option.some.injEq, Prod.mk.injEq] at H
         obtain ⟨rfl, rfl, rfl⟩ := H
         go_wp2_with (first | (go_at_call 72; (with_reducible refine (strings_IndexByte.calls js39 34 t294 _ A40.out).mono ?_); rintro e w' ⟨rfl, ⟨nd, rfl⟩⟩; (try first | ((with_reducible refine ⟨?_, _, World.drewN_drewN _ _ _⟩); rfl) | ((with_reducible refine ⟨?_, _, Eq.trans (World.drewN_drewN _ _ _) (congrArg (World.drewN _) (Nat.add_assoc _ _ _))⟩); rfl))))
         repeat (go_quiet (first | (go_at_call 72; (with_reducible refine (strings_IndexByte.calls js39 34 t294 _ A40.out).mono ?_); rintro e w' ⟨rfl, ⟨nd, rfl⟩⟩; (try first | ((with_reducible refine ⟨?_, _, World.drewN_drewN _ _ _⟩); rfl) | ((with_reducible refine ⟨?_, _, Eq.trans (World.drewN_drewN _ _ _) (congrArg (World.drewN _) (Nat.add_assoc _ _ _))⟩); rfl)))); try go_wp2_with (first | (go_at_call 72; (with_reducible refine (strings_IndexByte.calls js39 34 t294 _ A40.out).mono ?_); rintro e w' ⟨rfl, ⟨nd, rfl⟩⟩; (try first | ((with_reducible refine ⟨?_, _, World.drewN_drewN _ _ _⟩); rfl) | ((with_reducible refine ⟨?_, _, Eq.trans (World.drewN_drewN _ _ _) (congrArg (World.drewN _) (Nat.add_assoc _ _ _))⟩); rfl)))))
         go_ret3
         first | exact ⟨(0, Value.nilIface), by first | rfl | (simp [errX_none, errX_some] <;> rfl) | (simp only [← hji36, ← hjs39, ← hji45, ← hjs48, ← hji49, ← hjs52]; first | rfl | (simp [errX_none, errX_some] <;> rfl)) | (simp [*, errX_none, errX_some] <;> rfl), by repeat (first | (with_reducible first | exact HB.out | apply below_alloc | apply pw_below_drewN | apply below_drew1) | exact HB.out)⟩ | exact ⟨⟨((0, Value.nilIface)).1, ((0, Value.nilIface)).2, by first | rfl | (simp [errX_none, errX_some] <;> rfl) | (simp only [← hji36, ← hjs39, ← hji45, ← hjs48, ← hji49, ← hjs52]; first | rfl | (simp [errX_none, errX_some] <;> rfl)) | (simp [*, errX_none, errX_some] <;> rfl)⟩, by repeat (first | (with_reducible first | exact HB.out | apply below_alloc | apply pw_below_drewN | apply below_drew1) | exact HB.out)⟩
        rw [if_neg c51] at H
        exact absurd H (by simp)
       rw [if_neg c50] at H
       exact absurd H (by simp)
      rw [if_neg c47] at H
      exact absurd H (by simp)
     rw [if_neg c46] at H
     exact absurd H (by simp)
    rw [if_neg c44] at H
    have c44b0 : (t294 == 0) = false := beq_eq_false_iff_ne.mpr c44
    have c44b1 : (t294 != 0) = true := bne_iff_ne.mpr c44
    obtain ⟨ji53, hji53⟩ : ∃ j_ : Int, (wrap64 (t294 - 1)) = j_ := ⟨_, rfl⟩
    replace H : (if 0 ≤ (ji53) then (if (ji53) < (js39.size : Int) then (if (bt js39 (ji53)) = 92 then (fastjson_parseRawString.l0 kj19 js39 t294 a0) else (if 0 ≤ (wrap64 ((wrap64 ((a0.size : Int) - (js39.size : Int))) + t294)) then (if (wrap64 ((wrap64 ((a0.size : Int) - (js39.size : Int))) + t294)) ≤ (a0.size : Int) then (if 0 ≤ (wrap64 (t294 + 1)) then (if (wrap64 (t294 + 1)) ≤ (js39.size : Int) then (some (a0.extract 0 ((wrap64 ((wrap64 ((a0.size : Int) - (js39.size : Int))) + t294)) : Int).toNat, js39.extract ((wrap64 (t294 + 1)) : Int).toNat js39.size, none)) else (none)) else (none)) else (none)) else (none))) else (none)) else (none)) = some (r1, r2, r3) := by first | (rw [hji53] at H; exact H) | (simp only [hji53] at H ⊢; exact H)
    (try rw [hji53] at A40)
    have hji53w : (IntKind.i64.wrap (t294 - 1)) = ji53 := (i64_w _).trans hji53
    by_cases c54 : 0 ≤ (ji53)
    ·
     rw [if_pos c54] at H
     have c54b0 : decide (0 ≤ (ji53)) = true := decide_eq_true c54
     clear c54
     by_cases c55 : (ji53) < (js39.size : Int)
     ·
      rw [if_pos c55] at H
      have c55b0 : decide ((ji53) < (js39.size : Int)) = true := decide_eq_true c55
      clear c55
      by_cases c57 : (bt js39 (ji53)) = 92
      ·
       rw [if_pos c57] at H
       have c57b0 : ((bt js39 (ji53)) == 92) = true := beq_iff_eq.mpr c57
       have c57b1 : ((bt js39 (ji53)) != 92) = false := bne_eq_false_iff_eq.mpr c57
       clear c57
       have H' := Aside0.mk H
       clear H
       iterate 5 (try go_wp2_with (first | (go_at_call 72; (with_reducible refine (strings_IndexByte.calls js39 34 t294 _ A40.out).mono ?_); rintro e w' ⟨rfl, ⟨nd, rfl⟩⟩; (try first | ((with_reducible refine ⟨?_, _, World.drewN_drewN _ _ _⟩); rfl) | ((with_reducible refine ⟨?_, _, Eq.trans (World.drewN_drewN _ _ _) (congrArg (World.drewN _) (Nat.add_assoc _ _ _))⟩); rfl)); have p56 : 0 ≤ ((ji53) : Int) := of_decide_eq_true (by first | (with_reducible assumption) | assumption); have q56 : (ji53) < (js39.size : Int) := of_decide_eq_true (by first | (with_reducible assumption) | assumption); have hx56 := bt_at js39 (ji53); replace p56 := eq_true p56; replace q56 := eq_true q56)); try go_quiet (first | (go_at_call 72; (with_reducible refine (strings_IndexByte.calls js39 34 t294 _ A40.out).mono ?_); rintro e w' ⟨rfl, ⟨nd, rfl⟩⟩; (try first | ((with_reducible refine ⟨?_, _, World.drewN_drewN _ _ _⟩); rfl) | ((with_reducible refine ⟨?_, _, Eq.trans (World.drewN_drewN _ _ _) (congrArg (World.drewN _) (Nat.add_assoc _ _ _))⟩); rfl)); have p56 : 0 ≤ ((ji53) : Int) := of_decide_eq_true (by first | (with_reducible assumption) | assumption); have q56 : (ji53) < (js39.size : Int) := of_decide_eq_true (by first | (with_reducible assumption) | assumption); have hx56 := bt_at js39 (ji53); replace p56 := eq_true p56; replace q56 := eq_true q56)))
       go_roundg kj19
       case measure => have := HJ5.out; have := HK2.out; have := HJ19.out; omega
       case rel => exact ⟨(js39), (t294), (by first | rfl | (simp; done) | (simp only [← hjs39] <;> (first | rfl | simp); done) | (simp [nil_ne_, nil_eq_]; done) | (simp [*]; done)), (by first | rfl | (simp; done) | (simp [nil_ne_, nil_eq_]; done) | (simp [*]; done)), (by first | exact H' | (rw [hji53]; exact H') | (simp only [hji36, hjs39, hji53]; exact H') | (simp only [hji36, hjs39, hji53] at H' ⊢; exact H')), ⟨by have := HJ5.out; have := HK2.out; have := HJ19.out; omega⟩, ⟨by repeat (first | (with_reducible first | exact HB.out | apply below_alloc | apply pw_below_drewN | apply below_drew1) | exact HB.out)⟩⟩
      rw [if_neg c57] at H
      have c57b0 : ((bt js39 (ji53)) == 92) = false := beq_eq_false_iff_ne.mpr c57
      have c57b1 : ((bt js39 (ji53)) != 92) = true := bne_iff_ne.mpr c57
      obtain ⟨ji58, hji58⟩ : ∃ j_ : Int, (wrap64 ((wrap64 ((a0.size : Int) - (js39.size : Int))) + t294)) = j_ := ⟨_, rfl⟩
      replace H : (if 0 ≤ (ji58) then (if (ji58) ≤ (a0.size : Int) then (if 0 ≤ (wrap64 (t294 + 1)) then (if (wrap64 (t294 + 1)) ≤ (js39.size : Int) then (some (a0.extract 0 ((ji58) : Int).toNat, js39.extract ((wrap64 (t294 + 1)) : Int).toNat js39.size, none)) else (none)) else (none)) else (none)) else (none)) = some (r1, r2, r3) := by first | (rw [hji58] at H; exact H) | (simp only [hji58] at H ⊢; exact H)
      (try rw [hji58] at A40)
      have hji58w : (IntKind.i64.wrap ((wrap64 ((a0.size : Int) - (js39.size : Int))) + t294)) = ji58 := (i64_w _).trans hji58
      by_cases c59 : 0 ≤ (ji58)
      ·
       rw [if_pos c59] at H
       have c59b0 := eq_true c59
       have c59b1 : decide (0 ≤ (ji58)) = true := decide_eq_true c59
       clear c59
       by_cases c60 : (ji58) ≤ (a0.size : Int)
       ·
        rw [if_pos c60] at H
        have c60b0 := eq_true c60
        have c60b1 : decide ((ji58) ≤ (a0.size : Int)) = true := decide_eq_true c60
        clear c60
        obtain ⟨js61, hjs61⟩ : ∃ j_ : ByteArray, (a0.extract 0 ((ji58) : Int).toNat) = j_ := ⟨_, rfl⟩
        skip
        replace H : (if 0 ≤ (wrap64 (t294 + 1)) then (if (wrap64 (t294 + 1)) ≤ (js39.size : Int) then (some (js61, js39.extract ((wrap64 (t294 + 1)) : Int).toNat js39.size, none)) else (none)) else (none)) = some (r1, r2, r3) := by first | (rw [hjs61] at H; exact H) | (simp only [hjs61] at H ⊢; exact H)
        obtain ⟨ji62, hji62⟩ : ∃ j_ : Int, (wrap64 (t294 + 1)) = j_ := ⟨_, rfl⟩
        replace H : (if 0 ≤ (ji62) then (if (ji62) ≤ (js39.size : Int) then (some (js61, js39.extract ((ji62) : Int).toNat js39.size, none)) else (none)) else (none)) = some (r1, r2, r3) := by first | (rw [hji62] at H; exact H) | (simp only [hji62] at H ⊢; exact H)
        (try rw [hji62] at A40)
        have hji62w : (IntKind.i64.wrap (t294 + 1)) = ji62 := (i64_w _).trans hji62
        by_cases c63 : 0 ≤ (ji62)
        ·
         rw [if_pos c63] at H
         have c63b0 := eq_true c63
         have c63b1 : decide (0 ≤ (ji62)) = true := decide_eq_true c63
         clear c63
         by_cases c64 : (ji62) ≤ (js39.size : Int)
         ·
          rw [if_pos c64] at H
          have c64b0 := eq_true c64
          have c64b1 : decide ((ji62) ≤ (js39.size : Int)) = true := decide_eq_true c64
          clear c64
          obtain ⟨js65, hjs65⟩ : ∃ j_ : ByteArray, (js39.extract ((ji62) : Int).toNat js39.size) = j_ := ⟨_, rfl⟩
          skip
          replace H : (some (js61, js65, none)) = some (r1, r2, r3) := by first | (rw [hjs65] at H; exact H) | (simp only [hjs65] at H ⊢; exact H)
          simp only [Option.some.injEq, Prod.mk.injEq] at H
          obtain ⟨rfl, rfl, rfl⟩ := H
          iterate 5 (try go_wp2_with (first | (go_at_call 72; (with_reducible refine (strings_IndexByte.calls js39 34 t294 _ A40.out).mono ?_); rintro e w' ⟨rfl, ⟨nd, rfl⟩⟩; (try first | ((with_reducible refine ⟨?_, _, World.drewN_drewN _ _ _⟩); rfl) | ((with_reducible refine ⟨?_, _, Eq.trans (World.drewN_drewN _ _ _) (congrArg (World.drewN _) (Nat.add_assoc _ _ _))⟩); rfl)); have p56 : 0 ≤ ((ji53) : Int) := of_decide_eq_true (by first | (with_reducible assumption) | assumption); have q56 : (ji53) < (js39.size : Int) := of_decide_eq_true (by first | (with_reducible assumption) | assumption); have hx56 := bt_at js39 (ji53); replace p56 := eq_true p56; replace q56 := eq_true q56)); try go_quiet (first | (go_at_call 72; (with_reducible refine (strings_IndexByte.calls js39 34 t294 _ A40.out).mono ?_); rintro e w' ⟨rfl, ⟨nd, rfl⟩⟩; (try first | ((with_reducible refine ⟨?_, _, World.drewN_drewN _ _ _⟩); rfl) | ((with_reducible refine ⟨?_, _, Eq.trans (World.drewN_drewN _ _ _) (congrArg (World.drewN _) (Nat.add_assoc _ _ _))⟩); rfl)); have p56 : 0 ≤ ((ji53) : Int) := of_decide_eq_true (by first | (with_reducible assumption) | assumption); have q56 : (ji53) < (js39.size : Int) := of_decide_eq_true (by first | (with_reducible assumption) | assumption); have hx56 := bt_at js39 (ji53); replace p56 := eq_true p56; replace q56 := eq_true q56)))
          go_ret3
          first | exact ⟨(0, Value.nilIface), by first | rfl | (simp [errX_none, errX_some] <;> rfl) | (simp only [← hji36, ← hjs39, ← hji53, ← hji58, ← hjs61, ← hji62, ← hjs65]; first | rfl | (simp [errX_none, errX_some] <;> rfl)) | (simp [*, errX_none, errX_some] <;> rfl), by repeat (first | (with_reducible first | exact HB.out | apply below_alloc | apply pw_below_drewN | apply below_drew1) | exact HB.out)⟩ | exact ⟨⟨((0, Value.nilIface)).1, ((0, Value.nilIface)).2, by first | rfl | (simp [errX_none, errX_some] <;> rfl) | (simp only [← hji36, ← hjs39, ← hji53, ← hji58, ← hjs61, ← hji62, ← hjs65]; first | rfl | (simp [errX_none, errX_some] <;> rfl)) | (simp [*, errX_none, errX_some] <;> rfl)⟩, by repeat (first | (with_reducible first | exact HB.out | apply below_alloc | apply pw_below_drewN | apply below_drew1) | exact HB.out)⟩
         rw [if_neg c64] at H
         exact absurd H (by simp)
        rw [if_neg c63] at H
        exact absurd H (by simp)
       rw [if_neg c60] at H
       exact absurd H (by simp)
      rw [if_neg c59] at H
      exact absurd H (by simp)
     rw [if_neg c55] at H
     exact absurd H (by simp)
    rw [if_neg c54] at H
    exact absurd H (by simp)
   rw [if_neg c38] at H
   exact absurd H (by simp)
  rw [if_neg c37] at H
  exact absurd H (by simp)
end Go.Proofs.YtdhiihegfdmokaaDoor.PFnFjCheckObject