/- what the Go functions that the law FnFjCheckObject reaches compute, each as a plain function, with the proof that the Go code computes just that; no condition beside those that each theorem states. -/
import Derived.Test.YtdhiihegfdmokaaDoorPFnFjCheckObjectx0
import Derived.Test.YtdhiihegfdmokaaDoorPFnFjCheckObjectx7
import Derived.Test.YtdhiihegfdmokaaDoorGXFnFjCheckObject
import Derived.Test.YtdhiihegfdmokaaDoorHEFnFjCheckObject
import Derived.Test.YtdhiihegfdmokaaDoorHIFnFjCheckObject
import Derived.Test.YtdhiihegfdmokaaDoorHQFnFjCheckObject
namespace Go.Proofs.YtdhiihegfdmokaaDoor.PFnFjCheckObject
open Go.RowKit Go.Proofs.YtdhiihegfdmokaaDoorW.PrintWords Go.Proofs.YtdhiihegfdmokaaDoorW.PrintLast Go.Proofs.YtdhiihegfdmokaaDoorW.PrintMore
set_option linter.unusedVariables false
set_option linter.unusedSimpArgs false
mutual
def fastjson_validateString.j0 : Nat → ByteArray → Int → Bool → Option (ByteArray × ByteArray × Option Int)
  | 0, _, _, _ => none
  | k + 1, x0, x5, x24 => if x24 = true then (if 0 ≤ x5 then (if x5 ≤ (x0.size : Int) then (if 0 ≤ (wrap64 (x5 + 1)) then (if (wrap64 (x5 + 1)) ≤ (x0.size : Int) then (some (x0.extract 0 (x5 : Int).toNat, x0.extract ((wrap64 (x5 + 1)) : Int).toNat x0.size, none)) else (none)) else (none)) else (none)) else (none)) else ((fastjson_parseRawString.f k x0).bind fun bt298 => (if bt298.2.2.isNone = true then (fastjson_validateString.l0 k bt298.1 bt298.2.1) else (some (bt298.1, bt298.2.1, some (bt298.2.2.getD 0)))))
def fastjson_validateString.l0 : Nat → ByteArray → ByteArray → Option (ByteArray × ByteArray × Option Int)
  | 0, _, _ => none
  | k + 1, x6, x7 => (strings_IndexByte.f x6 92).bind fun t302 => (if t302 < 0 then (some (x6, x7, none)) else (if (wrap64 (t302 + 1)) ≥ (x6.size : Int) then ((errors_New.f (⟨#[66, 85, 71, 58, 32, 112, 97, 114, 115, 101, 82, 97, 119, 83, 116, 114, 105, 110, 103, 32, 114, 101, 116, 117, 114, 110, 101, 100, 32, 105, 110, 118, 97, 108, 105, 100, 32, 115, 116, 114, 105, 110, 103, 32, 119, 105, 116, 104, 32, 116, 114, 97, 105, 108, 105, 110, 103, 32, 98, 97, 99, 107, 115, 108, 97, 115, 104]⟩ : ByteArray)).bind fun t303 => (some (x6, x7, t303))) else (if 0 ≤ (wrap64 (t302 + 1)) then (if (wrap64 (t302 + 1)) < (x6.size : Int) then (if 0 ≤ (wrap64 ((wrap64 (t302 + 1)) + 1)) then (if (wrap64 ((wrap64 (t302 + 1)) + 1)) ≤ (x6.size : Int) then (if (bt x6 (wrap64 (t302 + 1))) = 34 then (fastjson_validateString.j2 k (x6.extract ((wrap64 ((wrap64 (t302 + 1)) + 1)) : Int).toNat x6.size) x7 (bt x6 (wrap64 (t302 + 1))) ((bt x6 (wrap64 (t302 + 1))) == 34)) else (if (bt x6 (wrap64 (t302 + 1))) = 92 then (fastjson_validateString.j2 k (x6.extract ((wrap64 ((wrap64 (t302 + 1)) + 1)) : Int).toNat x6.size) x7 (bt x6 (wrap64 (t302 + 1))) ((bt x6 (wrap64 (t302 + 1))) == 92)) else (if (bt x6 (wrap64 (t302 + 1))) = 47 then (fastjson_validateString.j2 k (x6.extract ((wrap64 ((wrap64 (t302 + 1)) + 1)) : Int).toNat x6.size) x7 (bt x6 (wrap64 (t302 + 1))) ((bt x6 (wrap64 (t302 + 1))) == 47)) else (if (bt x6 (wrap64 (t302 + 1))) = 98 then (fastjson_validateString.j2 k (x6.extract ((wrap64 ((wrap64 (t302 + 1)) + 1)) : Int).toNat x6.size) x7 (bt x6 (wrap64 (t302 + 1))) ((bt x6 (wrap64 (t302 + 1))) == 98)) else (if (bt x6 (wrap64 (t302 + 1))) = 102 then (fastjson_validateString.j2 k (x6.extract ((wrap64 ((wrap64 (t302 + 1)) + 1)) : Int).toNat x6.size) x7 (bt x6 (wrap64 (t302 + 1))) ((bt x6 (wrap64 (t302 + 1))) == 102)) else (if (bt x6 (wrap64 (t302 + 1))) = 110 then (fastjson_validateString.j2 k (x6.extract ((wrap64 ((wrap64 (t302 + 1)) + 1)) : Int).toNat x6.size) x7 (bt x6 (wrap64 (t302 + 1))) ((bt x6 (wrap64 (t302 + 1))) == 110)) else (if (bt x6 (wrap64 (t302 + 1))) = 114 then (fastjson_validateString.j2 k (x6.extract ((wrap64 ((wrap64 (t302 + 1)) + 1)) : Int).toNat x6.size) x7 (bt x6 (wrap64 (t302 + 1))) ((bt x6 (wrap64 (t302 + 1))) == 114)) else (fastjson_validateString.j2 k (x6.extract ((wrap64 ((wrap64 (t302 + 1)) + 1)) : Int).toNat x6.size) x7 (bt x6 (wrap64 (t302 + 1))) ((bt x6 (wrap64 (t302 + 1))) == 116))))))))) else (none)) else (none)) else (none)) else (none))))
def fastjson_validateString.j2 : Nat → ByteArray → ByteArray → Int → Bool → Option (ByteArray × ByteArray × Option Int)
  | 0, _, _, _, _ => none
  | k + 1, x6, x7, x65, x69 => if x69 = true then (fastjson_validateString.l0 k x6 x7) else (if x65 = 117 then (if (x6.size : Int) < 4 then ((errors_New.f (⟨#[116, 111, 111, 32, 115, 104, 111, 114, 116, 32, 101, 115, 99, 97, 112, 101, 32, 115, 101, 113, 117, 101, 110, 99, 101, 58, 32, 92, 117]⟩ : ByteArray)).bind fun t304 => (some (x6, x7, t304))) else (if 0 ≤ 4 then (if 4 ≤ (x6.size : Int) then ((strconv_ParseUint.f (x6.extract 0 4) 16 16).bind fun bt305 => (if bt305.2.isNone = true then (fastjson_validateString.l0 k (x6.extract 4 x6.size) x7) else ((errors_New.f (⟨#[105, 110, 118, 97, 108, 105, 100, 32, 101, 115, 99, 97, 112, 101, 32, 115, 101, 113, 117, 101, 110, 99, 101, 32, 92, 117]⟩ : ByteArray)).bind fun t308 => (some (x6, x7, t308))))) else (none)) else (none))) else ((errors_New.f (⟨#[117, 110, 107, 110, 111, 119, 110, 32, 101, 115, 99, 97, 112, 101, 32, 115, 101, 113, 117, 101, 110, 99, 101]⟩ : ByteArray)).bind fun t309 => (some (x6, x7, t309))))
end
def fastjson_validateString.f (k : Nat) (a0 : ByteArray) : Option (ByteArray × ByteArray × Option Int) := (strings_IndexByte.f a0 34).bind fun t296 => (if t296 ≥ 0 then (if 0 ≤ t296 then (if t296 ≤ (a0.size : Int) then ((strings_IndexByte.f (a0.extract 0 (t296 : Int).toNat) 92).bind fun t297 => (fastjson_validateString.j0 k a0 t296 (decide (t297 < 0)))) else (none)) else (none)) else (fastjson_validateString.j0 k a0 t296 false))
set_option maxHeartbeats 8000000 in
set_option maxRecDepth 100000 in
theorem fastjson_validateString.calls (k : Nat) (a0 : ByteArray) (r1 : ByteArray) (r2 : ByteArray) (r3 : Option Int) (w : World) (h : fastjson_validateString.f k a0 = some (r1, r2, r3)) (hG : Glob w) :
    Calls Tryd.prog 56 #[.string a0] w fun e w' => ∃ evr3 : TypeId × Value, e = .returned (.tuple #[.string r1, .string r2, errX r3 evr3]) ∧ Below w.heap.size w w' := by
 have hu43 := Tryd.underlying43
 have HB := Aside0.mk (Below.refl w.heap.size w)
 have HG := Aside0.mk hG
 clear hG
 have H : ((strings_IndexByte.f a0 34).bind fun t296 => (if t296 ≥ 0 then (if 0 ≤ t296 then (if t296 ≤ (a0.size : Int) then ((strings_IndexByte.f (a0.extract 0 (t296 : Int).toNat) 92).bind fun t297 => (fastjson_validateString.j0 k a0 t296 (decide (t297 < 0)))) else (none)) else (none)) else (fastjson_validateString.j0 k a0 t296 false))) = some (r1, r2, r3) := h
 clear h
 replace H := Option.bind_eq_some_iff.mp H
 obtain ⟨t296, A20, H⟩ := H
 replace H : (if t296 ≥ 0 then (if 0 ≤ t296 then (if t296 ≤ (a0.size : Int) then ((strings_IndexByte.f (a0.extract 0 (t296 : Int).toNat) 92).bind fun t297 => (fastjson_validateString.j0 k a0 t296 (decide (t297 < 0)))) else (none)) else (none)) else (fastjson_validateString.j0 k a0 t296 false)) = some (r1, r2, r3) := H
 have A2 := Aside0.mk A20
 clear A20
 have HC3 := Aside0.mk H
 clear H
 go_enter Tryd.func56, Tryd.ntmps56
 go_upto_region 2 with (first | (go_at_call 72; (with_reducible refine (strings_IndexByte.calls a0 34 t296 _ A2.out).mono ?_); rintro e w' ⟨rfl, ⟨nd, rfl⟩⟩; (try first | ((with_reducible refine ⟨?_, _, World.drewN_drewN _ _ _⟩); rfl) | ((with_reducible refine ⟨?_, _, Eq.trans (World.drewN_drewN _ _ _) (congrArg (World.drewN _) (Nat.add_assoc _ _ _))⟩); rfl))))
 repeat (go_quiet (first | (go_at_call 72; (with_reducible refine (strings_IndexByte.calls a0 34 t296 _ A2.out).mono ?_); rintro e w' ⟨rfl, ⟨nd, rfl⟩⟩; (try first | ((with_reducible refine ⟨?_, _, World.drewN_drewN _ _ _⟩); rfl) | ((with_reducible refine ⟨?_, _, Eq.trans (World.drewN_drewN _ _ _) (congrArg (World.drewN _) (Nat.add_assoc _ _ _))⟩); rfl)))); go_upto_region 2 with (first | (go_at_call 72; (with_reducible refine (strings_IndexByte.calls a0 34 t296 _ A2.out).mono ?_); rintro e w' ⟨rfl, ⟨nd, rfl⟩⟩; (try first | ((with_reducible refine ⟨?_, _, World.drewN_drewN _ _ _⟩); rfl) | ((with_reducible refine ⟨?_, _, Eq.trans (World.drewN_drewN _ _ _) (congrArg (World.drewN _) (Nat.add_assoc _ _ _))⟩); rfl)))))
 (try simp only [Act.put, List.setIfInBounds_toArray, List.set_cons_zero, List.set_cons_succ])
 go_cut [24] (fun v24 wc => ∃ (kq : Nat) (x24_2 : Bool), v24 = .bool x24_2 ∧ Aside0 (fastjson_validateString.j0 kq a0 t296 x24_2 = some (r1, r2, r3)) ∧ Aside0 (kq ≤ k) ∧ Aside0 (Below w.heap.size w wc))
 case first =>
  have H := HC3.out
  clear HC3
  by_cases c4 : t296 ≥ 0
  ·
   rw [if_pos c4] at H
   have c4b0 : decide (0 ≤ t296) = true := decide_eq_true c4
   clear c4
   (first | rw [c4b0] | (simp only [i64_w, i32_w]; rw [c4b0]) | rw [c4b1] | skip)
   by_cases c5 : 0 ≤ t296
   ·
    rw [if_pos c5] at H
    have c5b0 := eq_true c5
    have c5b1 : decide (0 ≤ t296) = true := decide_eq_true c5
    clear c5
    by_cases c6 : t296 ≤ (a0.size : Int)
    ·
     rw [if_pos c6] at H
     have c6b0 := eq_true c6
     have c6b1 : decide (t296 ≤ (a0.size : Int)) = true := decide_eq_true c6
     clear c6
     obtain ⟨js7, hjs7⟩ : ∃ j_ : ByteArray, (a0.extract 0 (t296 : Int).toNat) = j_ := ⟨_, rfl⟩
     skip
     replace H : ((strings_IndexByte.f js7 92).bind fun t297 => (fastjson_validateString.j0 k a0 t296 (decide (t297 < 0)))) = some (r1, r2, r3) := by first | (rw [hjs7] at H; exact H) | (simp only [hjs7] at H ⊢; exact H)
     replace H := Option.bind_eq_some_iff.mp H
     obtain ⟨t297, A80, H⟩ := H
     replace H : (fastjson_validateString.j0 k a0 t296 (decide (t297 < 0))) = some (r1, r2, r3) := H
     have A8 := Aside0.mk A80
     clear A80
     have H' := Aside0.mk H
     clear H
     go_wp2_with (first | (go_at_call 72; (with_reducible refine (strings_IndexByte.calls js7 92 t297 _ A8.out).mono ?_); rintro e w' ⟨rfl, ⟨nd, rfl⟩⟩; (try first | ((with_reducible refine ⟨?_, _, World.drewN_drewN _ _ _⟩); rfl) | ((with_reducible refine ⟨?_, _, Eq.trans (World.drewN_drewN _ _ _) (congrArg (World.drewN _) (Nat.add_assoc _ _ _))⟩); rfl))))
     repeat (go_quiet (first | (go_at_call 72; (with_reducible refine (strings_IndexByte.calls js7 92 t297 _ A8.out).mono ?_); rintro e w' ⟨rfl, ⟨nd, rfl⟩⟩; (try first | ((with_reducible refine ⟨?_, _, World.drewN_drewN _ _ _⟩); rfl) | ((with_reducible refine ⟨?_, _, Eq.trans (World.drewN_drewN _ _ _) (congrArg (World.drewN _) (Nat.add_assoc _ _ _))⟩); rfl)))); try go_wp2_with (first | (go_at_call 72; (with_reducible refine (strings_IndexByte.calls js7 92 t297 _ A8.out).mono ?_); rintro e w' ⟨rfl, ⟨nd, rfl⟩⟩; (try first | ((with_reducible refine ⟨?_, _, World.drewN_drewN _ _ _⟩); rfl) | ((with_reducible refine ⟨?_, _, Eq.trans (World.drewN_drewN _ _ _) (congrArg (World.drewN _) (Nat.add_assoc _ _ _))⟩); rfl)))))
     go_meet
     case rel => exact ⟨_, (decide (t297 < 0)), (by first | rfl | (simp; done) | (simp [nil_ne_, nil_eq_]; done) | (simp [*]; done)), (by first | exact H' | (rw [hjs7]; exact H') | (simp only [hjs7]; exact H') | (simp only [hjs7] at H' ⊢; exact H')), ⟨by first | omega | exact Nat.le_refl _⟩, ⟨by repeat (first | (with_reducible first | exact HB.out | apply below_alloc | apply pw_below_drewN | apply below_drew1) | exact HB.out)⟩⟩
    rw [if_neg c6] at H
    exact absurd H (by simp)
   rw [if_neg c5] at H
   exact absurd H (by simp)
  rw [if_neg c4] at H
  have c4b0 : decide (0 ≤ t296) = false := decide_eq_false c4
  clear c4
  (first | rw [c4b0] | (simp only [i64_w, i32_w]; rw [c4b0]) | rw [c4b1] | skip)
  have H' := Aside0.mk H
  clear H
  go_wp2
  repeat (go_quiet (fail); try go_wp2)
  go_meet
  case rel => exact ⟨_, (false), (by first | rfl | (simp; done) | (simp [nil_ne_, nil_eq_]; done) | (simp [*]; done)), H', ⟨by first | omega | exact Nat.le_refl _⟩, ⟨by repeat (first | (with_reducible first | exact HB.out | apply below_alloc | apply pw_below_drewN | apply below_drew1) | exact HB.out)⟩⟩
 clear HC3
 try clear p2
 try clear c4
 try clear c4b0
 try clear c4b1
 try clear c5
 try clear c5b0
 try clear c5b1
 try clear c6
 try clear c6b0
 try clear c6b1
 obtain ⟨kq, x24_2, rfl, HA, HJ2, HB⟩ := hcut
 rcases kq with _ | kj2
 · exact absurd HA.out (by simp [fastjson_validateString.j0])
 have H := HA.out
 clear HA
 simp only [fastjson_validateString.j0] at H
 by_cases c9 : x24_2 = true
 ·
  subst c9
  have H1 : (if 0 ≤ t296 then (if t296 ≤ (a0.size : Int) then (if 0 ≤ (wrap64 (t296 + 1)) then (if (wrap64 (t296 + 1)) ≤ (a0.size : Int) then (some (a0.extract 0 (t296 : Int).toNat, a0.extract ((wrap64 (t296 + 1)) : Int).toNat a0.size, none)) else (none)) else (none)) else (none)) else (none)) = some (r1, r2, r3) := by rw [if_pos rfl] at H; exact H
  clear H
  have H := H1
  clear H1
  by_cases c10 : 0 ≤ t296
  ·
   rw [if_pos c10] at H
   have c10b0 := eq_true c10
   have c10b1 : decide (0 ≤ t296) = true := decide_eq_true c10
   clear c10
   by_cases c11 : t296 ≤ (a0.size : Int)
   ·
    rw [if_pos c11] at H
    have c11b0 := eq_true c11
    have c11b1 : decide (t296 ≤ (a0.size : Int)) = true := decide_eq_true c11
    clear c11
    obtain ⟨js12, hjs12⟩ : ∃ j_ : ByteArray, (a0.extract 0 (t296 : Int).toNat) = j_ := ⟨_, rfl⟩
    skip
    replace H : (if 0 ≤ (wrap64 (t296 + 1)) then (if (wrap64 (t296 + 1)) ≤ (a0.size : Int) then (some (js12, a0.extract ((wrap64 (t296 + 1)) : Int).toNat a0.size, none)) else (none)) else (none)) = some (r1, r2, r3) := by first | (rw [hjs12] at H; exact H) | (simp only [hjs12] at H ⊢; exact H)
    obtain ⟨ji13, hji13⟩ : ∃ j_ : Int, (wrap64 (t296 + 1)) = j_ := ⟨_, rfl⟩
    replace H : (if 0 ≤ (ji13) then (if (ji13) ≤ (a0.size : Int) then (some (js12, a0.extract ((ji13) : Int).toNat a0.size, none)) else (none)) else (none)) = some (r1, r2, r3) := by first | (rw [hji13] at H; exact H) | (simp only [hji13] at H ⊢; exact H)
    have hji13w : (IntKind.i64.wrap (t296 + 1)) = ji13 := (i64_w _).trans hji13
    by_cases c14 : 0 ≤ (ji13)
    ·
     rw [if_pos c14] at H
     have c14b0 := eq_true c14
     have c14b1 : decide (0 ≤ (ji13)) = true := decide_eq_true c14
     clear c14
     by_cases c15 : (ji13) ≤ (a0.size : Int)
     ·
      rw [if_pos c15] at H
      have c15b0 := eq_true c15
      have c15b1 : decide ((ji13) ≤ (a0.size : Int)) = true := decide_eq_true c15
      clear c15
      obtain ⟨js16, hjs16⟩ : ∃ j_ : ByteArray, (a0.extract ((ji13) : Int).toNat a0.size) = j_ := ⟨_, rfl⟩
      skip
      replace H : (some (js12, js16, none)) = some (r1, r2, r3) := by first | (rw [hjs16] at H; exact H) | (simp only [hjs16] at H ⊢; exact H)
      simp only [Option.some.injEq, Prod.mk.injEq] at H
      obtain ⟨rfl, rfl, rfl⟩ := H
      go_wp2
      repeat (go_quiet (fail); try go_wp2)
      go_ret3
      first | exact ⟨(0, Value.nilIface), by first | rfl | (simp [errX_none, errX_some] <;> rfl) | (simp only [← hjs12, ← hji13, ← hjs16]; first | rfl | (simp [errX_none, errX_some] <;> rfl)) | (simp [*, errX_none, errX_some] <;> rfl), by repeat (first | (with_reducible first | exact HB.out | apply below_alloc | apply pw_below_drewN | apply below_drew1) | exact HB.out)⟩ | exact ⟨⟨((0, Value.nilIface)).1, ((0, Value.nilIface)).2, by first | rfl | (simp [errX_none, errX_some] <;> rfl) | (simp only [← hjs12, ← hji13, ← hjs16]; first | rfl | (simp [errX_none, errX_some] <;> rfl)) | (simp [*, errX_none, errX_some] <;> rfl)⟩, by repeat (first | (with_reducible first | exact HB.out | apply below_alloc | apply pw_below_drewN | apply below_drew1) | exact HB.out)⟩
     rw [if_neg c15] at H
     exact absurd H (by simp)
    rw [if_neg c14] at H
    exact absurd H (by simp)
   rw [if_neg c11] at H
   exact absurd H (by simp)
  rw [if_neg c10] at H
  exact absurd H (by simp)
 replace c9 := Bool.eq_false_iff.mpr c9
 subst c9
 have H1 : ((fastjson_parseRawString.f kj2 a0).bind fun bt298 => (if bt298.2.2.isNone = true then (fastjson_validateString.l0 kj2 bt298.1 bt298.2.1) else (some (bt298.1, bt298.2.1, some (bt298.2.2.getD 0))))) = some (r1, r2, r3) := by rw [if_neg (show ¬ (false = true) by decide)] at H; exact H
 clear H
 have H := H1
 clear H1
 replace H := Option.bind_eq_some_iff.mp H
 obtain ⟨⟨t298, t299, t300⟩, A170, H⟩ := H
 replace H : (if t300.isNone = true then (fastjson_validateString.l0 kj2 t298 t299) else (some (t298, t299, some (t300.getD 0)))) = some (r1, r2, r3) := H
 have A17 := Aside0.mk A170
 clear A170
 rcases t300 with _ | q301
 ·
  have H1 : (fastjson_validateString.l0 kj2 t298 t299) = some (r1, r2, r3) := by rw [if_pos (show (none : Option Int).isNone = true by rfl)] at H; exact H
  clear H
  have H := H1
  clear H1
  try simp only [errX_none, errX_some]
  have H' := Aside0.mk H
  clear H
  iterate 3 (try go_wp2_with (first | (go_at_call 61; (with_reducible refine (fastjson_parseRawString.calls kj2 a0 t298 t299 none _ A17.out).mono ?_); rintro e w18 ⟨evz_, rfl, hb⟩; have n0_ := Aside0.mk (below_step (by repeat (first | (with_reducible first | exact HB.out | apply below_alloc | apply pw_below_drewN | apply below_drew1) | exact HB.out)) hb); clear HB; have HB := n0_; clear n0_; (try clear hb); (try clear hb2); (try clear hk); (try clear hi); (try simp only [errX_none, errX_some]))); try go_quiet (first | (go_at_call 61; (with_reducible refine (fastjson_parseRawString.calls kj2 a0 t298 t299 none _ A17.out).mono ?_); rintro e w18 ⟨evz_, rfl, hb⟩; have n0_ := Aside0.mk (below_step (by repeat (first | (with_reducible first | exact HB.out | apply below_alloc | apply pw_below_drewN | apply below_drew1) | exact HB.out)) hb); clear HB; have HB := n0_; clear n0_; (try clear hb); (try clear hb2); (try clear hk); (try clear hi); (try simp only [errX_none, errX_some]))))
  try simp only [Act.put, List.setIfInBounds_toArray, List.set_cons_succ, List.set_cons_zero]
  go_loopg [6] kj2 (fun kq v6 w' => ∃ (x6_2 : ByteArray), v6 = .string x6_2 ∧ Aside0 (fastjson_validateString.l0 kq x6_2 t299 = some (r1, r2, r3)) ∧ Aside0 (kq ≤ kj2) ∧ Aside0 (Below w.heap.size w w'))
  case atStart => exact ⟨(t298), (by first | rfl | (simp; done) | (simp [nil_ne_, nil_eq_]; done) | (simp [*]; done)), H', ⟨Nat.le_refl _⟩, ⟨by repeat (first | (with_reducible first | exact HB.out | apply below_alloc | apply pw_below_drewN | apply below_drew1) | exact HB.out)⟩⟩
  case round =>
   clear H'
   try clear c1
   try clear p2
   try clear q3
   try clear c4
   try clear c4b0
   try clear c4b1
   try clear c5
   try clear c5b0
   try clear c5b1
   try clear c6
   try clear c6b0
   try clear c6b1
   try clear p6
   try clear c9
   try clear c10
   try clear c10b0
   try clear c10b1
   try clear c11
   try clear c11b0
   try clear c11b1
   try clear c14
   try clear c14b0
   try clear c14b1
   try clear c15
   try clear c15b0
   try clear c15b1
   try clear p2
   try clear q301
   obtain ⟨x6_2, rfl, HA, HK2, HB⟩ := hrel
   rcases gk with _ | k2
   · exact absurd HA.out (by simp [fastjson_validateString.l0])
   have H := HA.out
   clear HA
   simp only [fastjson_validateString.l0] at H
   replace H := Option.bind_eq_some_iff.mp H
   obtain ⟨t302, A190, H⟩ := H
   replace H : (if t302 < 0 then (some (x6_2, t299, none)) else (if (wrap64 (t302 + 1)) ≥ (x6_2.size : Int) then ((errors_New.f (⟨#[66, 85, 71, 58, 32, 112, 97, 114, 115, 101, 82, 97, 119, 83, 116, 114, 105, 110, 103, 32, 114, 101, 116, 117, 114, 110, 101, 100, 32, 105, 110, 118, 97, 108, 105, 100, 32, 115, 116, 114, 105, 110, 103, 32, 119, 105, 116, 104, 32, 116, 114, 97, 105, 108, 105, 110, 103, 32, 98, 97, 99, 107, 115, 108, 97, 115, 104]⟩ : ByteArray)).bind fun t303 => (some (x6_2, t299, t303))) else (if 0 ≤ (wrap64 (t302 + 1)) then (if (wrap64 (t302 + 1)) < (x6_2.size : Int) then (if 0 ≤ (wrap64 ((wrap64 (t302 + 1)) + 1)) then (if (wrap64 ((wrap64 (t302 + 1)) + 1)) ≤ (x6_2.size : Int) then (if (bt x6_2 (wrap64 (t302 + 1))) = 34 then (fastjson_validateString.j2 k2 (x6_2.extract ((wrap64 ((wrap64 (t302 + 1)) + 1)) : Int).toNat x6_2.size) t299 (bt x6_2 (wrap64 (t302 + 1))) ((bt x6_2 (wrap64 (t302 + 1))) == 34)) else (if (bt x6_2 (wrap64 (t302 + 1))) = 92 then (fastjson_validateString.j2 k2 (x6_2.extract ((wrap64 ((wrap64 (t302 + 1)) + 1)) : Int).toNat x6_2.size) t299 (bt x6_2 (wrap64 (t302 + 1))) ((bt x6_2 (wrap64 (t302 + 1))) == 92)) else (if (bt x6_2 (wrap64 (t302 + 1))) = 47 then (fastjson_validateString.j2 k2 (x6_2.extract ((wrap64 ((wrap64 (t302 + 1)) + 1)) : Int).toNat x6_2.size) t299 (bt x6_2 (wrap64 (t302 + 1))) ((bt x6_2 (wrap64 (t302 + 1))) == 47)) else (if (bt x6_2 (wrap64 (t302 + 1))) = 98 then (fastjson_validateString.j2 k2 (x6_2.extract ((wrap64 ((wrap64 (t302 + 1)) + 1)) : Int).toNat x6_2.size) t299 (bt x6_2 (wrap64 (t302 + 1))) ((bt x6_2 (wrap64 (t302 + 1))) == 98)) else (if (bt x6_2 (wrap64 (t302 + 1))) = 102 then (fastjson_validateString.j2 k2 (x6_2.extract ((wrap64 ((wrap64 (t302 + 1)) + 1)) : Int).toNat x6_2.size) t299 (bt x6_2 (wrap64 (t302 + 1))) ((bt x6_2 (wrap64 (t302 + 1))) == 102)) else (if (bt x6_2 (wrap64 (t302 + 1))) = 110 then (fastjson_validateString.j2 k2 (x6_2.extract ((wrap64 ((wrap64 (t302 + 1)) + 1)) : Int).toNat x6_2.size) t299 (bt x6_2 (wrap64 (t302 + 1))) ((bt x6_2 (wrap64 (t302 + 1))) == 110)) else (if (bt x6_2 (wrap64 (t302 + 1))) = 114 then (fastjson_validateString.j2 k2 (x6_2.extract ((wrap64 ((wrap64 (t302 + 1)) + 1)) : Int).toNat x6_2.size) t299 (bt x6_2 (wrap64 (t302 + 1))) ((bt x6_2 (wrap64 (t302 + 1))) == 114)) else (fastjson_validateString.j2 k2 (x6_2.extract ((wrap64 ((wrap64 (t302 + 1)) + 1)) : Int).toNat x6_2.size) t299 (bt x6_2 (wrap64 (t302 + 1))) ((bt x6_2 (wrap64 (t302 + 1))) == 116))))))))) else (none)) else (none)) else (none)) else (none)))) = some (r1, r2, r3) := H
   have A19 := Aside0.mk A190
   clear A190
   by_cases c20 : t302 < 0
   ·
    rw [if_pos c20] at H
    have c20b0 : decide (t302 < 0) = true := decide_eq_true c20
    clear c20
    simp only [Option.some.injEq, Prod.mk.injEq] at H
    obtain ⟨rfl, rfl, rfl⟩ := H
    go_wp2_with (first | (go_at_call 72; (with_reducible refine (strings_IndexByte.calls x6_2 92 t302 _ A19.out).mono ?_); rintro e w' ⟨rfl, ⟨nd, rfl⟩⟩; (try first | ((with_reducible refine ⟨?_, _, World.drewN_drewN _ _ _⟩); rfl) | ((with_reducible refine ⟨?_, _, Eq.trans (World.drewN_drewN _ _ _) (congrArg (World.drewN _) (Nat.add_assoc _ _ _))⟩); rfl))))
    repeat (go_quiet (first | (go_at_call 72; (with_reducible refine (strings_IndexByte.calls x6_2 92 t302 _ A19.out).mono ?_); rintro e w' ⟨rfl, ⟨nd, rfl⟩⟩; (try first | ((with_reducible refine ⟨?_, _, World.drewN_drewN _ _ _⟩); rfl) | ((with_reducible refine ⟨?_, _, Eq.trans (World.drewN_drewN _ _ _) (congrArg (World.drewN _) (Nat.add_assoc _ _ _))⟩); rfl)))); try go_wp2_with (first | (go_at_call 72; (with_reducible refine (strings_IndexByte.calls x6_2 92 t302 _ A19.out).mono ?_); rintro e w' ⟨rfl, ⟨nd, rfl⟩⟩; (try first | ((with_reducible refine ⟨?_, _, World.drewN_drewN _ _ _⟩); rfl) | ((with_reducible refine ⟨?_, _, Eq.trans (World.drewN_drewN _ _ _) (congrArg (World.drewN _) (Nat.add_assoc _ _ _))⟩); rfl)))))
    go_ret3
    first | exact ⟨(0, Value.nilIface), by first | rfl | (simp [errX_none, errX_some] <;> rfl) | (simp [*, errX_none, errX_some] <;> rfl), by repeat (first | (with_reducible first | exact HB.out | apply below_alloc | apply pw_below_drewN | apply below_drew1) | exact HB.out)⟩ | exact ⟨⟨((0, Value.nilIface)).1, ((0, Value.nilIface)).2, by first | rfl | (simp [errX_none, errX_some] <;> rfl) | (simp [*, errX_none, errX_some] <;> rfl)⟩, by repeat (first | (with_reducible first | exact HB.out | apply below_alloc | apply pw_below_drewN | apply below_drew1) | exact HB.out)⟩
   rw [if_neg c20] at H
   have c20b0 : decide (t302 < 0) = false := decide_eq_false c20
   clear c20
   by_cases c21 : (wrap64 (t302 + 1)) ≥ (x6_2.size : Int)
   ·
    rw [if_pos c21] at H
    have c21b0 : decide ((x6_2.size : Int) ≤ (wrap64 (t302 + 1))) = true := decide_eq_true c21
    clear c21
    replace H := Option.bind_eq_some_iff.mp H
    obtain ⟨t303, A220, H⟩ := H
    replace H : (some (x6_2, t299, t303)) = some (r1, r2, r3) := H
    have A22 := Aside0.mk A220
    clear A220
    simp only [Option.some.injEq, Prod.mk.injEq] at H
    obtain ⟨rfl, rfl, rfl⟩ := H
    iterate 3 (try go_wp2_with (first | (go_at_call 72; (with_reducible refine (strings_IndexByte.calls x6_2 92 t302 _ A19.out).mono ?_); rintro e w' ⟨rfl, ⟨nd, rfl⟩⟩; (try first | ((with_reducible refine ⟨?_, _, World.drewN_drewN _ _ _⟩); rfl) | ((with_reducible refine ⟨?_, _, Eq.trans (World.drewN_drewN _ _ _) (congrArg (World.drewN _) (Nat.add_assoc _ _ _))⟩); rfl))) | (go_at_call 37; (with_reducible refine (errors_New.calls (⟨#[66, 85, 71, 58, 32, 112, 97, 114, 115, 101, 82, 97, 119, 83, 116, 114, 105, 110, 103, 32, 114, 101, 116, 117, 114, 110, 101, 100, 32, 105, 110, 118, 97, 108, 105, 100, 32, 115, 116, 114, 105, 110, 103, 32, 119, 105, 116, 104, 32, 116, 114, 97, 105, 108, 105, 110, 103, 32, 98, 97, 99, 107, 115, 108, 97, 115, 104]⟩ : ByteArray) t303 _ A22.out).mono ?_); rintro e w23 ⟨evt303, rfl, hb⟩; have n0_ := Aside0.mk (below_step (by repeat (first | (with_reducible first | exact HB.out | apply below_alloc | apply pw_below_drewN | apply below_drew1) | exact HB.out)) hb); clear HB; have HB := n0_; clear n0_; (try clear hb); (try clear hb2); (try clear hk); (try clear hi); (try simp only [errX_none, errX_some]))); try go_quiet (first | (go_at_call 72; (with_reducible refine (strings_IndexByte.calls x6_2 92 t302 _ A19.out).mono ?_); rintro e w' ⟨rfl, ⟨nd, rfl⟩⟩; (try first | ((with_reducible refine ⟨?_, _, World.drewN_drewN _ _ _⟩); rfl) | ((with_reducible refine ⟨?_, _, Eq.trans (World.drewN_drewN _ _ _) (congrArg (World.drewN _) (Nat.add_assoc _ _ _))⟩); rfl))) | (go_at_call 37; (with_reducible refine (errors_New.calls (⟨#[66, 85, 71, 58, 32, 112, 97, 114, 115, 101, 82, 97, 119, 83, 116, 114, 105, 110, 103, 32, 114, 101, 116, 117, 114, 110, 101, 100, 32, 105, 110, 118, 97, 108, 105, 100, 32, 115, 116, 114, 105, 110, 103, 32, 119, 105, 116, 104, 32, 116, 114, 97, 105, 108, 105, 110, 103, 32, 98, 97, 99, 107, 115, 108, 97, 115, 104]⟩ : ByteArray) t303 _ A22.out).mono ?_); rintro e w23 ⟨evt303, rfl, hb⟩; have n0_ := Aside0.mk (below_step (by repeat (first | (with_reducible first | exact HB.out | apply below_alloc | apply pw_below_drewN | apply below_drew1) | exact HB.out)) hb); clear HB; have HB := n0_; clear n0_; (try clear hb); (try clear hb2); (try clear hk); (try clear hi); (try simp only [errX_none, errX_some]))))
    go_ret3
    first | exact ⟨evt303, by first | rfl | (simp [errX_none, errX_some] <;> rfl) | (simp [*, errX_none, errX_some] <;> rfl), by repeat (first | (with_reducible first | exact HB.out | apply below_alloc | apply pw_below_drewN | apply below_drew1) | exact HB.out)⟩ | exact ⟨⟨(evt303).1, (evt303).2, by first | rfl | (simp [errX_none, errX_some] <;> rfl) | (simp [*, errX_none, errX_some] <;> rfl)⟩, by repeat (first | (with_reducible first | exact HB.out | apply below_alloc | apply pw_below_drewN | apply below_drew1) | exact HB.out)⟩
   rw [if_neg c21] at H
   have c21b0 : decide ((x6_2.size : Int) ≤ (wrap64 (t302 + 1))) = false := decide_eq_false c21
   clear c21
   obtain ⟨ji24, hji24⟩ : ∃ j_ : Int, (wrap64 (t302 + 1)) = j_ := ⟨_, rfl⟩
   replace H : (if 0 ≤ (ji24) then (if (ji24) < (x6_2.size : Int) then (if 0 ≤ (wrap64 ((ji24) + 1)) then (if (wrap64 ((ji24) + 1)) ≤ (x6_2.size : Int) then (if (bt x6_2 (ji24)) = 34 then (fastjson_validateString.j2 k2 (x6_2.extract ((wrap64 ((ji24) + 1)) : Int).toNat x6_2.size) t299 (bt x6_2 (ji24)) ((bt x6_2 (ji24)) == 34)) else (if (bt x6_2 (ji24)) = 92 then (fastjson_validateString.j2 k2 (x6_2.extract ((wrap64 ((ji24) + 1)) : Int).toNat x6_2.size) t299 (bt x6_2 (ji24)) ((bt x6_2 (ji24)) == 92)) else (if (bt x6_2 (ji24)) = 47 then (fastjson_validateString.j2 k2 (x6_2.extract ((wrap64 ((ji24) + 1)) : Int).toNat x6_2.size) t299 (bt x6_2 (ji24)) ((bt x6_2 (ji24)) == 47)) else (if (bt x6_2 (ji24)) = 98 then (fastjson_validateString.j2 k2 (x6_2.extract ((wrap64 ((ji24) + 1)) : Int).toNat x6_2.size) t299 (bt x6_2 (ji24)) ((bt x6_2 (ji24)) == 98)) else (if (bt x6_2 (ji24)) = 102 then (fastjson_validateString.j2 k2 (x6_2.extract ((wrap64 ((ji24) + 1)) : Int).toNat x6_2.size) t299 (bt x6_2 (ji24)) ((bt x6_2 (ji24)) == 102)) else (if (bt x6_2 (ji24)) = 110 then (fastjson_validateString.j2 k2 (x6_2.extract ((wrap64 ((ji24) + 1)) : Int).toNat x6_2.size) t299 (bt x6_2 (ji24)) ((bt x6_2 (ji24)) == 110)) else (if (bt x6_2 (ji24)) = 114 then (fastjson_validateString.j2 k2 (x6_2.extract ((wrap64 ((ji24) + 1)) : Int).toNat x6_2.size) t299 (bt x6_2 (ji24)) ((bt x6_2 (ji24)) == 114)) else (fastjson_validateString.j2 k2 (x6_2.extract ((wrap64 ((ji24) + 1)) : Int).toNat x6_2.size) t299 (bt x6_2 (ji24)) ((bt x6_2 (ji24)) == 116))))))))) else (none)) else (none)) else (none)) else (none)) = some (r1, r2, r3) := by first | (rw [hji24] at H; exact H) | (simp only [hji24] at H ⊢; exact H)
   (try rw [hji24] at c21b0)
   (try rw [hji24] at A19)
   have hji24w : (IntKind.i64.wrap (t302 + 1)) = ji24 := (i64_w _).trans hji24
   by_cases c25 : 0 ≤ (ji24)
   ·
    rw [if_pos c25] at H
    have c25b0 : decide (0 ≤ (ji24)) = true := decide_eq_true c25
    clear c25
    by_cases c26 : (ji24) < (x6_2.size : Int)
    ·
     rw [if_pos c26] at H
     have c26b0 : decide ((ji24) < (x6_2.size : Int)) = true := decide_eq_true c26
     clear c26
     obtain ⟨ji28, hji28⟩ : ∃ j_ : Int, (wrap64 ((ji24) + 1)) = j_ := ⟨_, rfl⟩
     replace H : (if 0 ≤ (ji28) then (if (ji28) ≤ (x6_2.size : Int) then (if (bt x6_2 (ji24)) = 34 then (fastjson_validateString.j2 k2 (x6_2.extract ((ji28) : Int).toNat x6_2.size) t299 (bt x6_2 (ji24)) ((bt x6_2 (ji24)) == 34)) else (if (bt x6_2 (ji24)) = 92 then (fastjson_validateString.j2 k2 (x6_2.extract ((ji28) : Int).toNat x6_2.size) t299 (bt x6_2 (ji24)) ((bt x6_2 (ji24)) == 92)) else (if (bt x6_2 (ji24)) = 47 then (fastjson_validateString.j2 k2 (x6_2.extract ((ji28) : Int).toNat x6_2.size) t299 (bt x6_2 (ji24)) ((bt x6_2 (ji24)) == 47)) else (if (bt x6_2 (ji24)) = 98 then (fastjson_validateString.j2 k2 (x6_2.extract ((ji28) : Int).toNat x6_2.size) t299 (bt x6_2 (ji24)) ((bt x6_2 (ji24)) == 98)) else (if (bt x6_2 (ji24)) = 102 then (fastjson_validateString.j2 k2 (x6_2.extract ((ji28) : Int).toNat x6_2.size) t299 (bt x6_2 (ji24)) ((bt x6_2 (ji24)) == 102)) else (if (bt x6_2 (ji24)) = 110 then (fastjson_validateString.j2 k2 (x6_2.extract ((ji28) : Int).toNat x6_2.size) t299 (bt x6_2 (ji24)) ((bt x6_2 (ji24)) == 110)) else (if (bt x6_2 (ji24)) = 114 then (fastjson_validateString.j2 k2 (x6_2.extract ((ji28) : Int).toNat x6_2.size) t299 (bt x6_2 (ji24)) ((bt x6_2 (ji24)) == 114)) else (fastjson_validateString.j2 k2 (x6_2.extract ((ji28) : Int).toNat x6_2.size) t299 (bt x6_2 (ji24)) ((bt x6_2 (ji24)) == 116))))))))) else (none)) else (none)) = some (r1, r2, r3) := by first | (rw [hji28] at H; exact H) | (simp only [hji28] at H ⊢; exact H)
     (try rw [hji28] at A19)
     have hji28w : (IntKind.i64.wrap ((ji24) + 1)) = ji28 := (i64_w _).trans hji28
     by_cases c29 : 0 ≤ (ji28)
     ·
      rw [if_pos c29] at H
      have c29b0 := eq_true c29
      have c29b1 : decide (0 ≤ (ji28)) = true := decide_eq_true c29
      clear c29
      by_cases c30 : (ji28) ≤ (x6_2.size : Int)
      ·
       rw [if_pos c30] at H
       have c30b0 := eq_true c30
       have c30b1 : decide ((ji28) ≤ (x6_2.size : Int)) = true := decide_eq_true c30
       clear c30
       obtain ⟨js31, hjs31⟩ : ∃ j_ : ByteArray, (x6_2.extract ((ji28) : Int).toNat x6_2.size) = j_ := ⟨_, rfl⟩
       skip
       replace H : (if (bt x6_2 (ji24)) = 34 then (fastjson_validateString.j2 k2 js31 t299 (bt x6_2 (ji24)) ((bt x6_2 (ji24)) == 34)) else (if (bt x6_2 (ji24)) = 92 then (fastjson_validateString.j2 k2 js31 t299 (bt x6_2 (ji24)) ((bt x6_2 (ji24)) == 92)) else (if (bt x6_2 (ji24)) = 47 then (fastjson_validateString.j2 k2 js31 t299 (bt x6_2 (ji24)) ((bt x6_2 (ji24)) == 47)) else (if (bt x6_2 (ji24)) = 98 then (fastjson_validateString.j2 k2 js31 t299 (bt x6_2 (ji24)) ((bt x6_2 (ji24)) == 98)) else (if (bt x6_2 (ji24)) = 102 then (fastjson_validateString.j2 k2 js31 t299 (bt x6_2 (ji24)) ((bt x6_2 (ji24)) == 102)) else (if (bt x6_2 (ji24)) = 110 then (fastjson_validateString.j2 k2 js31 t299 (bt x6_2 (ji24)) ((bt x6_2 (ji24)) == 110)) else (if (bt x6_2 (ji24)) = 114 then (fastjson_validateString.j2 k2 js31 t299 (bt x6_2 (ji24)) ((bt x6_2 (ji24)) == 114)) else (fastjson_validateString.j2 k2 js31 t299 (bt x6_2 (ji24)) ((bt x6_2 (ji24)) == 116))))))))) = some (r1, r2, r3) := by first | (rw [hjs31] at H; exact H) | (simp only [hjs31] at H ⊢; exact H)
       have HC32 := Aside0.mk H
       clear H
       go_upto_if 69 with (first | (go_at_call 72; (with_reducible refine (strings_IndexByte.calls x6_2 92 t302 _ A19.out).mono ?_); rintro e w' ⟨rfl, ⟨nd, rfl⟩⟩; (try first | ((with_reducible refine ⟨?_, _, World.drewN_drewN _ _ _⟩); rfl) | ((with_reducible refine ⟨?_, _, Eq.trans (World.drewN_drewN _ _ _) (congrArg (World.drewN _) (Nat.add_assoc _ _ _))⟩); rfl)); have p27 : 0 ≤ ((ji24) : Int) := of_decide_eq_true (by first | (with_reducible assumption) | assumption); have q27 : (ji24) < (x6_2.size : Int) := of_decide_eq_true (by first | (with_reducible assumption) | assumption); have hx27 := bt_at x6_2 (ji24); replace p27 := eq_true p27; replace q27 := eq_true q27))
       repeat (go_quiet (first | (go_at_call 72; (with_reducible refine (strings_IndexByte.calls x6_2 92 t302 _ A19.out).mono ?_); rintro e w' ⟨rfl, ⟨nd, rfl⟩⟩; (try first | ((with_reducible refine ⟨?_, _, World.drewN_drewN _ _ _⟩); rfl) | ((with_reducible refine ⟨?_, _, Eq.trans (World.drewN_drewN _ _ _) (congrArg (World.drewN _) (Nat.add_assoc _ _ _))⟩); rfl)); have p27 : 0 ≤ ((ji24) : Int) := of_decide_eq_true (by first | (with_reducible assumption) | assumption); have q27 : (ji24) < (x6_2.size : Int) := of_decide_eq_true (by first | (with_reducible assumption) | assumption); have hx27 := bt_at x6_2 (ji24); replace p27 := eq_true p27; replace q27 := eq_true q27)); go_upto_if 69 with (first | (go_at_call 72; (with_reducible refine (strings_IndexByte.calls x6_2 92 t302 _ A19.out).mono ?_); rintro e w' ⟨rfl, ⟨nd, rfl⟩⟩; (try first | ((with_reducible refine ⟨?_, _, World.drewN_drewN _ _ _⟩); rfl) | ((with_reducible refine ⟨?_, _, Eq.trans (World.drewN_drewN _ _ _) (congrArg (World.drewN _) (Nat.add_assoc _ _ _))⟩); rfl)); have p27 : 0 ≤ ((ji24) : Int) := of_decide_eq_true (by first | (with_reducible assumption) | assumption); have q27 : (ji24) < (x6_2.size : Int) := of_decide_eq_true (by first | (with_reducible assumption) | assumption); have hx27 := bt_at x6_2 (ji24); replace p27 := eq_true p27; replace q27 := eq_true q27)))
       (try simp only [Act.put, List.setIfInBounds_toArray, List.set_cons_zero, List.set_cons_succ])
       go_cut [69] (fun v69 wc => ∃ (kq : Nat) (x69_31 : Bool), v69 = .bool x69_31 ∧ Aside0 (fastjson_validateString.j2 kq js31 t299 (bt x6_2 (ji24)) x69_31 = some (r1, r2, r3)) ∧ Aside0 (kq ≤ k2) ∧ Aside0 (Below w.heap.size w wc))
       case first =>
        have H := HC32.out
        clear HC32
        by_cases c33 : (bt x6_2 (ji24)) = 34
        ·
         rw [if_pos c33] at H
         have c33b0 : ((bt x6_2 (ji24)) == 34) = true := beq_iff_eq.mpr c33
         have c33b1 : ((bt x6_2 (ji24)) != 34) = false := bne_eq_false_iff_eq.mpr c33
         clear c33
         (first | rw [c33b0] | (simp only [i64_w, i32_w]; rw [c33b0]) | rw [c33b1] | skip)
         have H' := Aside0.mk H
         clear H
         go_wp2
         repeat (go_quiet (fail); try go_wp2)
         go_meet
         case rel => exact ⟨_, (((bt x6_2 (ji24)) == 34)), (by first | rfl | (simp; done) | (simp only [← hji24] <;> (first | rfl | simp); done) | (simp [nil_ne_, nil_eq_]; done) | (simp [*]; done)), (by first | exact H' | (rw [hjs31]; exact H') | (simp only [hji24, hji28, hjs31]; exact H') | (simp only [hji24, hji28, hjs31] at H' ⊢; exact H')), ⟨by have := HJ2.out; have := HK2.out; first | omega | exact Nat.le_refl _⟩, ⟨by repeat (first | (with_reducible first | exact HB.out | apply below_alloc | apply pw_below_drewN | apply below_drew1) | exact HB.out)⟩⟩
        rw [if_neg c33] at H
        have c33b0 : ((bt x6_2 (ji24)) == 34) = false := beq_eq_false_iff_ne.mpr c33
        have c33b1 : ((bt x6_2 (ji24)) != 34) = true := bne_iff_ne.mpr c33
        (first | rw [c33b0] | (simp only [i64_w, i32_w]; rw [c33b0]) | rw [c33b1] | skip)
        by_cases c34 : (bt x6_2 (ji24)) = 92
        ·
         rw [if_pos c34] at H
         have c34b0 : ((bt x6_2 (ji24)) == 92) = true := beq_iff_eq.mpr c34
         have c34b1 : ((bt x6_2 (ji24)) != 92) = false := bne_eq_false_iff_eq.mpr c34
         clear c34
         have H' := Aside0.mk H
         clear H
         go_wp2
         repeat (go_quiet (fail); try go_wp2)
         go_meet
         case rel => exact ⟨_, (((bt x6_2 (ji24)) == 92)), (by first | rfl | (simp; done) | (simp only [← hji24] <;> (first | rfl | simp); done) | (simp [nil_ne_, nil_eq_]; done) | (simp [*]; done)), (by first | exact H' | (rw [hjs31]; exact H') | (simp only [hji24, hji28, hjs31]; exact H') | (simp only [hji24, hji28, hjs31] at H' ⊢; exact H')), ⟨by have := HJ2.out; have := HK2.out; first | omega | exact Nat.le_refl _⟩, ⟨by repeat (first | (with_reducible first | exact HB.out | apply below_alloc | apply pw_below_drewN | apply below_drew1) | exact HB.out)⟩⟩
        rw [if_neg c34] at H
        have c34b0 : ((bt x6_2 (ji24)) == 92) = false := beq_eq_false_iff_ne.mpr c34
        have c34b1 : ((bt x6_2 (ji24)) != 92) = true := bne_iff_ne.mpr c34
        by_cases c35 : (bt x6_2 (ji24)) = 47
        ·
         rw [if_pos c35] at H
         have c35b0 : ((bt x6_2 (ji24)) == 47) = true := beq_iff_eq.mpr c35
         have c35b1 : ((bt x6_2 (ji24)) != 47) = false := bne_eq_false_iff_eq.mpr c35
         clear c35
         have H' := Aside0.mk H
         clear H
         go_wp2
         repeat (go_quiet (fail); try go_wp2)
         go_meet
         case rel => exact ⟨_, (((bt x6_2 (ji24)) == 47)), (by first | rfl | (simp; done) | (simp only [← hji24] <;> (first | rfl | simp); done) | (simp [nil_ne_, nil_eq_]; done) | (simp [*]; done)), (by first | exact H' | (rw [hjs31]; exact H') | (simp only [hji24, hji28, hjs31]; exact H') | (simp only [hji24, hji28, hjs31] at H' ⊢; exact H')), ⟨by have := HJ2.out; have := HK2.out; first | omega | exact Nat.le_refl _⟩, ⟨by repeat (first | (with_reducible first | exact HB.out | apply below_alloc | apply pw_below_drewN | apply below_drew1) | exact HB.out)⟩⟩
        rw [if_neg c35] at H
        have c35b0 : ((bt x6_2 (ji24)) == 47) = false := beq_eq_false_iff_ne.mpr c35
        have c35b1 : ((bt x6_2 (ji24)) != 47) = true := bne_iff_ne.mpr c35
        by_cases c36 : (bt x6_2 (ji24)) = 98
        ·
         rw [if_pos c36] at H
         have c36b0 : ((bt x6_2 (ji24)) == 98) = true := beq_iff_eq.mpr c36
         have c36b1 : ((bt x6_2 (ji24)) != 98) = false := bne_eq_false_iff_eq.mpr c36
         clear c36
         have H' := Aside0.mk H
         clear H
         go_wp2
         repeat (go_quiet (fail); try go_wp2)
         go_meet
         case rel => exact ⟨_, (((bt x6_2 (ji24)) == 98)), (by first | rfl | (simp; done) | (simp only [← hji24] <;> (first | rfl | simp); done) | (simp [nil_ne_, nil_eq_]; done) | (simp [*]; done)), (by first | exact H' | (rw [hjs31]; exact H') | (simp only [hji24, hji28, hjs31]; exact H') | (simp only [hji24, hji28, hjs31] at H' ⊢; exact H')), ⟨by have := HJ2.out; have := HK2.out; first | omega | exact Nat.le_refl _⟩, ⟨by repeat (first | (with_reducible first | exact HB.out | apply below_alloc | apply pw_below_drewN | apply below_drew1) | exact HB.out)⟩⟩
        rw [if_neg c36] at H
        have c36b0 : ((bt x6_2 (ji24)) == 98) = false := beq_eq_false_iff_ne.mpr c36
        have c36b1 : ((bt x6_2 (ji24)) != 98) = true := bne_iff_ne.mpr c36
        by_cases c37 : (bt x6_2 (ji24)) = 102
        ·
         rw [if_pos c37] at H
         have c37b0 : ((bt x6_2 (ji24)) == 102) = true := beq_iff_eq.mpr c37
         have c37b1 : ((bt x6_2 (ji24)) != 102) = false := bne_eq_false_iff_eq.mpr c37
         clear c37
         have H' := Aside0.mk H
         clear H
         go_wp2
         repeat (go_quiet (fail); try go_wp2)
         go_meet
         case rel => exact ⟨_, (((bt x6_2 (ji24)) == 102)), (by first | rfl | (simp; done) | (simp only [← hji24] <;> (first | rfl | simp); done) | (simp [nil_ne_, nil_eq_]; done) | (simp [*]; done)), (by first | exact H' | (rw [hjs31]; exact H') | (simp only [hji24, hji28, hjs31]; exact H') | (simp only [hji24, hji28, hjs31] at H' ⊢; exact H')), ⟨by have := HJ2.out; have := HK2.out; first | omega | exact Nat.le_refl _⟩, ⟨by repeat (first | (with_reducible first | exact HB.out | apply below_alloc | apply pw_below_drewN | apply below_drew1) | exact HB.out)⟩⟩
        rw [if_neg c37] at H
        have c37b0 : ((bt x6_2 (ji24)) == 102) = false := beq_eq_false_iff_ne.mpr c37
        have c37b1 : ((bt x6_2 (ji24)) != 102) = true := bne_iff_ne.mpr c37
        by_cases c38 : (bt x6_2 (ji24)) = 110
        ·
         rw [if_pos c38] at H
         have c38b0 : ((bt x6_2 (ji24)) == 110) = true := beq_iff_eq.mpr c38
         have c38b1 : ((bt x6_2 (ji24)) != 110) = false := bne_eq_false_iff_eq.mpr c38
         clear c38
         have H' := Aside0.mk H
         clear H
         go_wp2
         repeat (go_quiet (fail); try go_wp2)
         go_meet
         case rel => exact ⟨_, (((bt x6_2 (ji24)) == 110)), (by first | rfl | (simp; done) | (simp only [← hji24] <;> (first | rfl | simp); done) | (simp [nil_ne_, nil_eq_]; done) | (simp [*]; done)), (by first | exact H' | (rw [hjs31]; exact H') | (simp only [hji24, hji28, hjs31]; exact H') | (simp only [hji24, hji28, hjs31] at H' ⊢; exact H')), ⟨by have := HJ2.out; have := HK2.out; first | omega | exact Nat.le_refl _⟩, ⟨by repeat (first | (with_reducible first | exact HB.out | apply below_alloc | apply pw_below_drewN | apply below_drew1) | exact HB.out)⟩⟩
        rw [if_neg c38] at H
        have c38b0 : ((bt x6_2 (ji24)) == 110) = false := beq_eq_false_iff_ne.mpr c38
        have c38b1 : ((bt x6_2 (ji24)) != 110) = true := bne_iff_ne.mpr c38
        by_cases c39 : (bt x6_2 (ji24)) = 114
        ·
         rw [if_pos c39] at H
         have c39b0 : ((bt x6_2 (ji24)) == 114) = true := beq_iff_eq.mpr c39
         have c39b1 : ((bt x6_2 (ji24)) != 114) = false := bne_eq_false_iff_eq.mpr c39
         clear c39
         have H' := Aside0.mk H
         clear H
         go_wp2
         repeat (go_quiet (fail); try go_wp2)
         go_meet
         case rel => exact ⟨_, (((bt x6_2 (ji24)) == 114)), (by first | rfl | (simp; done) | (simp only [← hji24] <;> (first | rfl | simp); done) | (simp [nil_ne_, nil_eq_]; done) | (simp [*]; done)), (by first | exact H' | (rw [hjs31]; exact H') | (simp only [hji24, hji28, hjs31]; exact H') | (simp only [hji24, hji28, hjs31] at H' ⊢; exact H')), ⟨by have := HJ2.out; have := HK2.out; first | omega | exact Nat.le_refl _⟩, ⟨by repeat (first | (with_reducible first | exact HB.out | apply below_alloc | apply pw_below_drewN | apply below_drew1) | exact HB.out)⟩⟩
        rw [if_neg c39] at H
        have c39b0 : ((bt x6_2 (ji24)) == 114) = false := beq_eq_false_iff_ne.mpr c39
        have c39b1 : ((bt x6_2 (ji24)) != 114) = true := bne_iff_ne.mpr c39
        have H' := Aside0.mk H
        clear H
        go_wp2
        repeat (go_quiet (fail); try go_wp2)
        go_meet
        case rel => exact ⟨_, (((bt x6_2 (ji24)) == 116)), (by first | rfl | (simp; done) | (simp only [← hji24] <;> (first | rfl | simp); done) | (simp [nil_ne_, nil_eq_]; done) | (simp [*]; done)), (by first | exact H' | (rw [hjs31]; exact H') | (simp only [hji24, hji28, hjs31]; exact H') | (simp only [hji24, hji28, hjs31] at H' ⊢; exact H')), ⟨by have := HJ2.out; have := HK2.out; first | omega | exact Nat.le_refl _⟩, ⟨by repeat (first | (with_reducible first | exact HB.out | apply below_alloc | apply pw_below_drewN | apply below_drew1) | exact HB.out)⟩⟩
       clear HC32
       try clear c1
       try clear c2
       try clear p2
       try clear q2
       try clear hx2
       try clear c3
       try clear q3
       try clear c4
       try clear c4b0
       try clear c4b1
       try clear c5
       try clear c5b0
       try clear c5b1
       try clear c6
       try clear c6b0
       try clear c6b1
       try clear p6
       try clear c9
       try clear c10
       try clear c10b0
       try clear c10b1
       try clear c11
       try clear c11b0
       try clear c11b1
       try clear c14
       try clear c14b0
       try clear c14b1
       try clear c15
       try clear c15b0
       try clear c15b1
       try clear c20
       try clear c20b0
       try clear c21
       try clear c21b0
       try clear c25
       try clear c25b0
       try clear c26
       try clear c26b0
       try clear p27
       try clear q27
       try clear hx27
       try clear c29
       try clear c29b0
       try clear c29b1
       try clear c30
       try clear c30b0
       try clear c30b1
       try clear q30
       try clear c33
       try clear c33b0
       try clear c33b1
       try clear c34
       try clear c34b0
       try clear c34b1
       try clear c35
       try clear c35b0
       try clear c35b1
       try clear c36
       try clear c36b0
       try clear c36b1
       try clear c37
       try clear c37b0
       try clear c37b1
       try clear c38
       try clear c38b0
       try clear c38b1
       try clear c39
       try clear c39b0
       try clear c39b1
       try clear p2
       try clear p27
       try clear p6
       try clear q27
       try clear q3
       try clear q301
       obtain ⟨kq, x69_31, rfl, HA, HJ31, HB⟩ := hcut
       rcases kq with _ | kj31
       · exact absurd HA.out (by simp [fastjson_validateString.j2])
       have H := HA.out
       clear HA
       simp only [fastjson_validateString.j2] at H
       by_cases c40 : x69_31 = true
       ·
        subst c40
        have H1 : (fastjson_validateString.l0 kj31 js31 t299) = some (r1, r2, r3) := by rw [if_pos rfl] at H; exact H
        clear H
        have H := H1
        clear H1
        have H' := Aside0.mk H
        clear H
        go_wp2
        repeat (go_quiet (fail); try go_wp2)
        go_roundg kj31
        case measure => have := HJ2.out; have := HK2.out; have := HJ31.out; omega
        case rel => exact ⟨(js31), (by first | rfl | (simp; done) | (simp only [← hjs31] <;> (first | rfl | simp); done) | (simp [nil_ne_, nil_eq_]; done) | (simp [*]; done)), (by first | exact H' | (rw [hjs31]; exact H') | (simp only [hji24, hji28, hjs31]; exact H') | (simp only [hji24, hji28, hjs31] at H' ⊢; exact H')), ⟨by have := HJ2.out; have := HK2.out; have := HJ31.out; omega⟩, ⟨by repeat (first | (with_reducible first | exact HB.out | apply below_alloc | apply pw_below_drewN | apply below_drew1) | exact HB.out)⟩⟩
       replace c40 := Bool.eq_false_iff.mpr c40
       subst c40
       have H1 : (if (bt x6_2 (ji24)) = 117 then (if (js31.size : Int) < 4 then ((errors_New.f (⟨#[116, 111, 111, 32, 115, 104, 111, 114, 116, 32, 101, 115, 99, 97, 112, 101, 32, 115, 101, 113, 117, 101, 110, 99, 101, 58, 32, 92, 117]⟩ : ByteArray)).bind fun t304 => (some (js31, t299, t304))) else (if 0 ≤ 4 then (if 4 ≤ (js31.size : Int) then ((strconv_ParseUint.f (js31.extract 0 4) 16 16).bind fun bt305 => (if bt305.2.isNone = true then (fastjson_validateString.l0 kj31 (js31.extract 4 js31.size) t299) else ((errors_New.f (⟨#[105, 110, 118, 97, 108, 105, 100, 32, 101, 115, 99, 97, 112, 101, 32, 115, 101, 113, 117, 101, 110, 99, 101, 32, 92, 117]⟩ : ByteArray)).bind fun t308 => (some (js31, t299, t308))))) else (none)) else (none))) else ((errors_New.f (⟨#[117, 110, 107, 110, 111, 119, 110, 32, 101, 115, 99, 97, 112, 101, 32, 115, 101, 113, 117, 101, 110, 99, 101]⟩ : ByteArray)).bind fun t309 => (some (js31, t299, t309)))) = some (r1, r2, r3) := by rw [if_neg (show ¬ (false = true) by decide)] at H; exact H
       clear H
       have H := H1
       clear H1
       by_cases c41 : (bt x6_2 (ji24)) = 117
       ·
        rw [if_pos c41] at H
        have c41b0 : ((bt x6_2 (ji24)) == 117) = true := beq_iff_eq.mpr c41
        have c41b1 : ((bt x6_2 (ji24)) != 117) = false := bne_eq_false_iff_eq.mpr c41
        clear c41
        by_cases c42 : (js31.size : Int) < 4
        ·
         rw [if_pos c42] at H
         have c42b0 : decide ((js31.size : Int) < 4) = true := decide_eq_true c42
         have c42b1 : decide (js31.size < 4) = true := decide_eq_true (by omega)
         clear c42
         replace H := Option.bind_eq_some_iff.mp H
         obtain ⟨t304, A430, H⟩ := H
         replace H : (some (js31, t299, t304)) = some (r1, r2, r3) := H
         have A43 := Aside0.mk A430
         clear A430
         simp only [Option.some.injEq, Prod.mk.injEq] at H
         obtain ⟨rfl, rfl, rfl⟩ := H
         iterate 3 (try go_wp2_with (first | (go_at_call 37; (with_reducible refine (errors_New.calls (⟨#[116, 111, 111, 32, 115, 104, 111, 114, 116, 32, 101, 115, 99, 97, 112, 101, 32, 115, 101, 113, 117, 101, 110, 99, 101, 58, 32, 92, 117]⟩ : ByteArray) t304 _ A43.out).mono ?_); rintro e w44 ⟨evt304, rfl, hb⟩; have n0_ := Aside0.mk (below_step (by repeat (first | (with_reducible first | exact HB.out | apply below_alloc | apply pw_below_drewN | apply below_drew1) | exact HB.out)) hb); clear HB; have HB := n0_; clear n0_; (try clear hb); (try clear hb2); (try clear hk); (try clear hi); (try simp only [errX_none, errX_some]))); try go_quiet (first | (go_at_call 37; (with_reducible refine (errors_New.calls (⟨#[116, 111, 111, 32, 115, 104, 111, 114, 116, 32, 101, 115, 99, 97, 112, 101, 32, 115, 101, 113, 117, 101, 110, 99, 101, 58, 32, 92, 117]⟩ : ByteArray) t304 _ A43.out).mono ?_); rintro e w44 ⟨evt304, rfl, hb⟩; have n0_ := Aside0.mk (below_step (by repeat (first | (with_reducible first | exact HB.out | apply below_alloc | apply pw_below_drewN | apply below_drew1) | exact HB.out)) hb); clear HB; have HB := n0_; clear n0_; (try clear hb); (try clear hb2); (try clear hk); (try clear hi); (try simp only [errX_none, errX_some]))))
         go_ret3
         first | exact ⟨evt304, by first | rfl | (simp [errX_none, errX_some] <;> rfl) | (simp only [← hji24, ← hji28, ← hjs31]; first | rfl | (simp [errX_none, errX_some] <;> rfl)) | (simp [*, errX_none, errX_some] <;> rfl), by repeat (first | (with_reducible first | exact HB.out | apply below_alloc | apply pw_below_drewN | apply below_drew1) | exact HB.out)⟩ | exact ⟨⟨(evt304).1, (evt304).2, by first | rfl | (simp [errX_none, errX_some] <;> rfl) | (simp only [← hji24, ← hji28, ← hjs31]; first | rfl | (simp [errX_none, errX_some] <;> rfl)) | (simp [*, errX_none, errX_some] <;> rfl)⟩, by repeat (first | (with_reducible first | exact HB.out | apply below_alloc | apply pw_below_drewN | apply below_drew1) | exact HB.out)⟩
        rw [if_neg c42] at H
        have c42b0 : decide ((js31.size : Int) < 4) = false := decide_eq_false c42
        have c42b1 : decide (js31.size < 4) = false := decide_eq_false (by omega)
        clear c42
        by_cases c45 : 0 ≤ 4
        ·
         rw [if_pos c45] at H
         have c45b0 := eq_true c45
         have c45b1 : decide (0 ≤ 4) = true := decide_eq_true c45
         clear c45
         by_cases c46 : 4 ≤ (js31.size : Int)
         ·
          rw [if_pos c46] at H
          have c46b0 := eq_true c46
          have c46b1 : decide (4 ≤ (js31.size : Int)) = true := decide_eq_true c46
          clear c46
          obtain ⟨js47, hjs47⟩ : ∃ j_ : ByteArray, (js31.extract 0 4) = j_ := ⟨_, rfl⟩
          skip
          replace H : ((strconv_ParseUint.f js47 16 16).bind fun bt305 => (if bt305.2.isNone = true then (fastjson_validateString.l0 kj31 (js31.extract 4 js31.size) t299) else ((errors_New.f (⟨#[105, 110, 118, 97, 108, 105, 100, 32, 101, 115, 99, 97, 112, 101, 32, 115, 101, 113, 117, 101, 110, 99, 101, 32, 92, 117]⟩ : ByteArray)).bind fun t308 => (some (js31, t299, t308))))) = some (r1, r2, r3) := by first | (rw [hjs47] at H; exact H) | (simp only [hjs47] at H ⊢; exact H)
          replace H := Option.bind_eq_some_iff.mp H
          obtain ⟨⟨t305, t306⟩, A480, H⟩ := H
          replace H : (if t306.isNone = true then (fastjson_validateString.l0 kj31 (js31.extract 4 js31.size) t299) else ((errors_New.f (⟨#[105, 110, 118, 97, 108, 105, 100, 32, 101, 115, 99, 97, 112, 101, 32, 115, 101, 113, 117, 101, 110, 99, 101, 32, 92, 117]⟩ : ByteArray)).bind fun t308 => (some (js31, t299, t308)))) = some (r1, r2, r3) := H
          have A48 := Aside0.mk A480
          clear A480
          rcases t306 with _ | q307
          ·
           have H1 : (fastjson_validateString.l0 kj31 (js31.extract 4 js31.size) t299) = some (r1, r2, r3) := by rw [if_pos (show (none : Option Int).isNone = true by rfl)] at H; exact H
           clear H
           have H := H1
           clear H1
           try simp only [errX_none, errX_some]
           have c49b0 := eq_true (of_decide_eq_true (by first | (with_reducible assumption) | assumption) : 4 ≤ (js31.size : Int))
           obtain ⟨js50, hjs50⟩ : ∃ j_ : ByteArray, (js31.extract 4 js31.size) = j_ := ⟨_, rfl⟩
           skip
           replace H : (fastjson_validateString.l0 kj31 js50 t299) = some (r1, r2, r3) := by first | (rw [hjs50] at H; exact H) | (simp only [hjs50] at H ⊢; exact H)
           have H' := Aside0.mk H
           clear H
           iterate 3 (try go_wp2_with (first | (go_at_call 73; (with_reducible refine (strconv_ParseUint.calls js47 16 16 t305 none _ A48.out (HG.out.below (by repeat (first | (with_reducible first | exact HB.out | apply below_alloc | apply pw_below_drewN | apply below_drew1) | exact HB.out)))).mono ?_); rintro e w51 ⟨evz_, rfl, hb⟩; have n0_ := Aside0.mk (below_step (by repeat (first | (with_reducible first | exact HB.out | apply below_alloc | apply pw_below_drewN | apply below_drew1) | exact HB.out)) hb); clear HB; have HB := n0_; clear n0_; (try clear hb); (try clear hb2); (try clear hk); (try clear hi); (try simp only [errX_none, errX_some]))); try go_quiet (first | (go_at_call 73; (with_reducible refine (strconv_ParseUint.calls js47 16 16 t305 none _ A48.out (HG.out.below (by repeat (first | (with_reducible first | exact HB.out | apply below_alloc | apply pw_below_drewN | apply below_drew1) | exact HB.out)))).mono ?_); rintro e w51 ⟨evz_, rfl, hb⟩; have n0_ := Aside0.mk (below_step (by repeat (first | (with_reducible first | exact HB.out | apply below_alloc | apply pw_below_drewN | apply below_drew1) | exact HB.out)) hb); clear HB; have HB := n0_; clear n0_; (try clear hb); (try clear hb2); (try clear hk); (try clear hi); (try simp only [errX_none, errX_some]))))
           go_roundg kj31
           case measure => have := HJ2.out; have := HK2.out; have := HJ31.out; omega
           case rel => exact ⟨(js50), (by first | rfl | (simp; done) | (simp only [← hjs50] <;> (first | rfl | simp); done) | (simp [nil_ne_, nil_eq_]; done) | (simp [*]; done)), (by first | exact H' | (rw [hjs50]; exact H') | (simp only [hji24, hji28, hjs31, hjs47, hjs50]; exact H') | (simp only [hji24, hji28, hjs31, hjs47, hjs50] at H' ⊢; exact H')), ⟨by have := HJ2.out; have := HK2.out; have := HJ31.out; omega⟩, ⟨by repeat (first | (with_reducible first | exact HB.out | apply below_alloc | apply pw_below_drewN | apply below_drew1) | exact HB.out)⟩⟩
          have H1 : ((errors_New.f (⟨#[105, 110, 118, 97, 108, 105, 100, 32, 101, 115, 99, 97, 112, 101, 32, 115, 101, 113, 117, 101, 110, 99, 101, 32, 92, 117]⟩ : ByteArray)).bind fun t308 => (some (js31, t299, t308))) = some (r1, r2, r3) := by rw [if_neg (show ¬ (some q307).isNone = true by simp)] at H; exact H
          clear H
          have H := H1
          clear H1
          try simp only [errX_none, errX_some]
          replace H := Option.bind_eq_some_iff.mp H
          obtain ⟨t308, A520, H⟩ := H
          replace H : (some (js31, t299, t308)) = some (r1, r2, r3) := H
          have A52 := Aside0.mk A520
          clear A520
          simp only [Option.some.injEq, Prod.mk.injEq] at H
          obtain ⟨rfl, rfl, rfl⟩ := H
          iterate 3 (try go_wp2_with (first | (go_at_call 73; (with_reducible refine (strconv_ParseUint.calls js47 16 16 t305 (some q307) _ A48.out (HG.out.below (by repeat (first | (with_reducible first | exact HB.out | apply below_alloc | apply pw_below_drewN | apply below_drew1) | exact HB.out)))).mono ?_); rintro e w53 ⟨evt306, rfl, hb⟩; have n0_ := Aside0.mk (below_step (by repeat (first | (with_reducible first | exact HB.out | apply below_alloc | apply pw_below_drewN | apply below_drew1) | exact HB.out)) hb); clear HB; have HB := n0_; clear n0_; (try clear hb); (try clear hb2); (try clear hk); (try clear hi); (try simp only [errX_none, errX_some])) | (go_at_call 37; (with_reducible refine (errors_New.calls (⟨#[105, 110, 118, 97, 108, 105, 100, 32, 101, 115, 99, 97, 112, 101, 32, 115, 101, 113, 117, 101, 110, 99, 101, 32, 92, 117]⟩ : ByteArray) t308 _ A52.out).mono ?_); rintro e w54 ⟨evt308, rfl, hb⟩; have n0_ := Aside0.mk (below_step (by repeat (first | (with_reducible first | exact HB.out | apply below_alloc | apply pw_below_drewN | apply below_drew1) | exact HB.out)) hb); clear HB; have HB := n0_; clear n0_; (try clear hb); (try clear hb2); (try clear hk); (try clear hi); (try simp only [errX_none, errX_some]))); try go_quiet (first | (go_at_call 73; (with_reducible refine (strconv_ParseUint.calls js47 16 16 t305 (some q307) _ A48.out (HG.out.below (by repeat (first | (with_reducible first | exact HB.out | apply below_alloc | apply pw_below_drewN | apply below_drew1) | exact HB.out)))).mono ?_); rintro e w53 ⟨evt306, rfl, hb⟩; have n0_ := Aside0.mk (below_step (by repeat (first | (with_reducible first | exact HB.out | apply below_alloc | apply pw_below_drewN | apply below_drew1) | exact HB.out)) hb); clear HB; have HB := n0_; clear n0_; (try clear hb); (try clear hb2); (try clear hk); (try clear hi); (try simp only [errX_none, errX_some])) | (go_at_call 37; (with_reducible refine (errors_New.calls (⟨#[105, 110, 118, 97, 108, 105, 100, 32, 101, 115, 99, 97, 112, 101, 32, 115, 101, 113, 117, 101, 110, 99, 101, 32, 92, 117]⟩ : ByteArray) t308 _ A52.out).mono ?_); rintro e w54 ⟨evt308, rfl, hb⟩; have n0_ := Aside0.mk (below_step (by repeat (first | (with_reducible first | exact HB.out | apply below_alloc | apply pw_below_drewN | apply below_drew1) | exact HB.out)) hb); clear HB; have HB := n0_; clear n0_; (try clear hb); (try clear hb2); (try clear hk); (try clear hi); (try simp only [errX_none, errX_some]))))
          go_ret3
          first | exact ⟨evt308, by first | rfl | (simp [errX_none, errX_some] <;> rfl) | (simp only [← hji24, ← hji28, ← hjs31, ← hjs47]; first | rfl | (simp [errX_none, errX_some] <;> rfl)) | (simp [*, errX_none, errX_some] <;> rfl), by repeat (first | (with_reducible first | exact HB.out | apply below_alloc | apply pw_below_drewN | apply below_drew1) | exact HB.out)⟩ | exact ⟨⟨(evt308).1, (evt308).2, by first | rfl | (simp [errX_none, errX_some] <;> rfl) | (simp only [← hji24, ← hji28, ← hjs31, ← hjs47]; first | rfl | (simp [errX_none, errX_some] <;> rfl)) | (simp [*, errX_none, errX_some] <;> rfl)⟩, by repeat (first | (with_reducible first | exact HB.out | apply below_alloc | apply pw_below_drewN | apply below_drew1) | exact HB.out)⟩
         rw [if_neg c46] at H
         exact absurd H (by simp)
        rw [if_neg c45] at H
        exact absurd H (by simp)
       rw [if_neg c41] at H
       have c41b0 : ((bt x6_2 (ji24)) == 117) = false := beq_eq_false_iff_ne.mpr c41
       have c41b1 : ((bt x6_2 (ji24)) != 117) = true := bne_iff_ne.mpr c41
       replace H := Option.bind_eq_some_iff.mp H
       obtain ⟨t309, A550, H⟩ := H
       replace H : (some (js31, t299, t309)) = some (r1, r2, r3) := H
       have A55 := Aside0.mk A550
       clear A550
       simp only [Option.some.injEq, Prod.mk.injEq] at H
       obtain ⟨rfl, rfl, rfl⟩ := H
       iterate 3 (try go_wp2_with (first | (go_at_call 37; (with_reducible refine (errors_New.calls (⟨#[117, 110, 107, 110, 111, 119, 110, 32, 101, 115, 99, 97, 112, 101, 32, 115, 101, 113, 117, 101, 110, 99, 101]⟩ : ByteArray) t309 _ A55.out).mono ?_); rintro e w56 ⟨evt309, rfl, hb⟩; have n0_ := Aside0.mk (below_step (by repeat (first | (with_reducible first | exact HB.out | apply below_alloc | apply pw_below_drewN | apply below_drew1) | exact HB.out)) hb); clear HB; have HB := n0_; clear n0_; (try clear hb); (try clear hb2); (try clear hk); (try clear hi); (try simp only [errX_none, errX_some]))); try go_quiet (first | (go_at_call 37; (with_reducible refine (errors_New.calls (⟨#[117, 110, 107, 110, 111, 119, 110, 32, 101, 115, 99, 97, 112, 101, 32, 115, 101, 113, 117, 101, 110, 99, 101]⟩ : ByteArray) t309 _ A55.out).mono ?_); rintro e w56 ⟨evt309, rfl, hb⟩; have n0_ := Aside0.mk (below_step (by repeat (first | (with_reducible first | exact HB.out | apply below_alloc | apply pw_below_drewN | apply below_drew1) | exact HB.out)) hb); clear HB; have HB := n0_; clear n0_; (try clear hb); (try clear hb2); (try clear hk); (try clear hi); (try simp only [errX_none, errX_some]))))
       go_ret3
       first | exact ⟨evt309, by first | rfl | (simp [errX_none, errX_some] <;> rfl) | (simp only [← hji24, ← hji28, ← hjs31]; first | rfl | (simp [errX_none, errX_some] <;> rfl)) | (simp [*, errX_none, errX_some] <;> rfl), by repeat (first | (with_reducible first | exact HB.out | apply below_alloc | apply pw_below_drewN | apply below_drew1) | exact HB.out)⟩ | exact ⟨⟨(evt309).1, (evt309).2, by first | rfl | (simp [errX_none, errX_some] <;> rfl) | (simp only [← hji24, ← hji28, ← hjs31]; first | rfl | (simp [errX_none, errX_some] <;> rfl)) | (simp [*, errX_none, errX_some] <;> rfl)⟩, by repeat (first | (with_reducible first | exact HB.out | apply below_alloc | apply pw_below_drewN | apply below_drew1) | exact HB.out)⟩
      rw [if_neg c30] at H
      exact absurd H (by simp)
     rw [if_neg c29] at H
     exact absurd H (by simp)
    rw [if_neg c26] at H
    exact absurd H (by simp)
   rw [if_neg c25] at H
   exact absurd H (by simp)
 have H1 : (some (t298, t299, some q301)) = some (r1, r2, r3) := by rw [if_neg (show ¬ (some q301).isNone = true by simp)] at H; exact H
 clear H
 have H := H1
 clear H1
 try simp only [errX_none, errX_some]
 simp only [Option.some.injEq, Prod.mk.injEq] at H
 obtain ⟨rfl, rfl, rfl⟩ := H
 iterate 3 (try go_wp2_with (first | (go_at_call 61; (with_reducible refine (fastjson_parseRawString.calls kj2 a0 t298 t299 (some q301) _ A17.out).mono ?_); rintro e w57 ⟨evt300, rfl, hb⟩; have n0_ := Aside0.mk (below_step (by repeat (first | (with_reducible first | exact HB.out | apply below_alloc | apply pw_below_drewN | apply below_drew1) | exact HB.out)) hb); clear HB; have HB := n0_; clear n0_; (try clear hb); (try clear hb2); (try clear hk); (try clear hi); (try simp only [errX_none, errX_some]))); try go_quiet (first | (go_at_call 61; (with_reducible refine (fastjson_parseRawString.calls kj2 a0 t298 t299 (some q301) _ A17.out).mono ?_); rintro e w57 ⟨evt300, rfl, hb⟩; have n0_ := Aside0.mk (below_step (by repeat (first | (with_reducible first | exact HB.out | apply below_alloc | apply pw_below_drewN | apply below_drew1) | exact HB.out)) hb); clear HB; have HB := n0_; clear n0_; (try clear hb); (try clear hb2); (try clear hk); (try clear hi); (try simp only [errX_none, errX_some]))))
 go_ret3
 first | exact ⟨evt300, by first | rfl | (simp [errX_none, errX_some] <;> rfl) | (simp [*, errX_none, errX_some] <;> rfl), by repeat (first | (with_reducible first | exact HB.out | apply below_alloc | apply pw_below_drewN | apply below_drew1) | exact HB.out)⟩ | exact ⟨⟨(evt300).1, (evt300).2, by first | rfl | (simp [errX_none, errX_some] <;> rfl) | (simp [*, errX_none, errX_some] <;> rfl)⟩, by repeat (first | (with_reducible first | exact HB.out | apply below_alloc | apply pw_below_drewN | apply below_drew1) | exact HB.out)⟩
end Go.Proofs.YtdhiihegfdmokaaDoor.PFnFjCheckObject