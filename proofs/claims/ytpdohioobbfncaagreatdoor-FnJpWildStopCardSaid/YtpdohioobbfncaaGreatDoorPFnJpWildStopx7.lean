/- what the Go functions that the law FnJpWildStop reaches compute, each as a plain function, with the proof that the Go code computes just that; no condition beside those that each theorem states. -/
import Derived.Test.YtpdohioobbfncaaGreatDoorPFnJpWildStopx0
import Derived.Test.YtpdohioobbfncaaGreatDoorPFnJpWildStopx6
namespace Go.Proofs.YtpdohioobbfncaaGreatDoor.PFnJpWildStop
open Go.RowKit Go.Proofs.YtpdohioobbfncaaGreatDoorW.PrintWords Go.Proofs.YtpdohioobbfncaaGreatDoorW.PrintLast Go.Proofs.YtpdohioobbfncaaGreatDoorW.PrintMore
set_option linter.unusedVariables false
set_option linter.unusedSimpArgs false
def Unq_.l0 : Nat → List Int → ByteArray → Int → Option (ByteArray)
  | 0, _, _, _ => none
  | k + 1, x3, x4, x5 => if x5 < (x4.size : Int) then (if 0 ≤ x5 then (if (bt x4 x5) = 92 then ((u_.f k x4 x5).bind fun bt330 => (if bt330.2 = true then ((u_.f k x4 (wrap64 (x5 + 6))).bind fun bt336 => (if bt336.2 = true then ((hig_.f bt330.1).bind fun t338 => (if t338 = true then ((spec_low.f bt336.1).bind fun t339 => (if t339 = true then ((aUTF_.f k x3 (wrap64 ((wrap64 (65536 + (wrap64 ((wrap64 (bt330.1 - 55296)) * 1024)))) + (wrap64 (bt336.1 - 56320))))).bind fun t340 => (Unq_.l0 k t340 x4 (wrap64 ((wrap64 (x5 + 6)) + 6)))) else ((aUTF_.f k x3 bt330.1).bind fun t343 => (Unq_.l0 k t343 x4 (wrap64 (x5 + 6)))))) else ((aUTF_.f k x3 bt330.1).bind fun t346 => (Unq_.l0 k t346 x4 (wrap64 (x5 + 6)))))) else ((aUTF_.f k x3 bt330.1).bind fun t349 => (Unq_.l0 k t349 x4 (wrap64 (x5 + 6)))))) else (if 0 ≤ (wrap64 (x5 + 1)) then (if (wrap64 (x5 + 1)) < (x4.size : Int) then ((s_.f (bt x4 (wrap64 (x5 + 1)))).bind fun t332 => (if x3.length < 140737488355328 then (Unq_.l0 k (x3 ++ [t332]) x4 (wrap64 (x5 + 2))) else (none))) else (none)) else (none)))) else (if x3.length < 140737488355328 then (Unq_.l0 k (x3 ++ [bt x4 x5]) x4 (wrap64 (x5 + 1))) else (none))) else (none)) else (some (strOfNums x3))
def Unq_.f (k : Nat) (a0 : ByteArray) : Option (ByteArray) := if 1 ≤ (wrap64 ((a0.size : Int) - 1)) then (if (wrap64 ((a0.size : Int) - 1)) ≤ (a0.size : Int) then (Unq_.l0 k ([] : List Int) (a0.extract 1 ((wrap64 ((a0.size : Int) - 1)) : Int).toNat) 0) else (none)) else (none)
set_option maxHeartbeats 8000000 in
set_option maxRecDepth 100000 in
theorem Unq_.calls (k : Nat) (a0 : ByteArray) (r : ByteArray) (w : World) (h : Unq_.f k a0 = some r) :
    Calls Tryz.prog 28 #[.string a0] w fun e w' => e = .returned (.string r) ∧ Below w.heap.size w w' := by
 have HB := Aside0.mk (Below.refl w.heap.size w)
 have H : (if 1 ≤ (wrap64 ((a0.size : Int) - 1)) then (if (wrap64 ((a0.size : Int) - 1)) ≤ (a0.size : Int) then (Unq_.l0 k ([] : List Int) (a0.extract 1 ((wrap64 ((a0.size : Int) - 1)) : Int).toNat) 0) else (none)) else (none)) = some r := h
 clear h
 by_cases c2 : 1 ≤ (wrap64 ((a0.size : Int) - 1))
 ·
  rw [if_pos c2] at H
  have c2b0 := eq_true c2
  have c2b1 := decide_eq_true c2
  clear c2
  by_cases c3 : (wrap64 ((a0.size : Int) - 1)) ≤ (a0.size : Int)
  ·
   rw [if_pos c3] at H
   have c3b0 := eq_true c3
   have c3b1 := decide_eq_true c3
   clear c3
   obtain ⟨js4, hjs4⟩ : ∃ j_ : ByteArray, (a0.extract 1 ((wrap64 ((a0.size : Int) - 1)) : Int).toNat) = j_ := ⟨_, rfl⟩
   skip
   replace H : (Unq_.l0 k ([] : List Int) js4 0) = some r := by first | (rw [hjs4] at H; exact H) | (simp only [hjs4] at H ⊢; exact H)
   have H' := Aside0.mk H
   clear H
   go_enter Tryz.func28, Tryz.ntmps28
   go_wp2
   try simp only [Act.put, List.setIfInBounds_toArray, List.set_cons_succ, List.set_cons_zero]
   go_loopg [3, 5] k (fun kq v3 v5 w' => ∃ (x3_1 : List Int) (x5_1 : Int), v5 = .int .i64 x5_1 ∧ Aside0 (Unq_.l0 kq x3_1 js4 x5_1 = some r) ∧ Aside0 (kq ≤ k) ∧ Aside0 (Kd.R (Kd.int .u8) 5 w' w.heap.size (fun _ => True) v3 x3_1) ∧ Aside0 (Below w.heap.size w w'))
   case atStart => exact ⟨(([] : List Int)), (0), zE, H', ⟨Nat.le_refl _⟩, ⟨zN⟩, ⟨zB HB.out⟩⟩
   case round =>
    clear H'
    (try clear c2b0); (try clear c2b1); (try clear c3b0); (try clear c3b1)
    obtain ⟨x3_1, x5_1, rfl, HA, HK1, HO_3, HB⟩ := hrel
    rcases gk with _ | k1
    · exact absurd HA.out (by simp [Unq_.l0])
    have H := HA.out
    clear HA
    simp only [Unq_.l0] at H
    by_cases c5 : x5_1 < (js4.size : Int)
    rw [if_pos c5] at H
    have c5b0 := decide_eq_true c5
    clear c5
    by_cases c6 : 0 ≤ x5_1
    rw [if_pos c6] at H
    have c6b0 := decide_eq_true c6
    clear c6
    by_cases c8 : (bt js4 x5_1) = 92
    rw [if_pos c8] at H
    have c8b0 := beq_iff_eq.mpr c8
    have c8b1 := bne_eq_false_iff_eq.mpr c8
    clear c8
    replace H := Option.bind_eq_some_iff.mp H
    obtain ⟨⟨t330, t331⟩, A90, H⟩ := H
    try dsimp only at H
    have A9 := Aside0.mk A90
    clear A90
    by_cases c10 : t331 = true
    subst c10
    rw [if_pos rfl] at H
    replace H := Option.bind_eq_some_iff.mp H
    obtain ⟨⟨t336, t337⟩, A110, H⟩ := H
    try dsimp only at H
    have A11 := Aside0.mk A110
    clear A110
    by_cases c12 : t337 = true
    subst c12
    rw [if_pos rfl] at H
    replace H := Option.bind_eq_some_iff.mp H
    obtain ⟨t338, A130, H⟩ := H
    try dsimp only at H
    have A13 := Aside0.mk A130
    clear A130
    by_cases c14 : t338 = true
    subst c14
    rw [if_pos rfl] at H
    replace H := Option.bind_eq_some_iff.mp H
    obtain ⟨t339, A150, H⟩ := H
    try dsimp only at H
    have A15 := Aside0.mk A150
    clear A150
    by_cases c16 : t339 = true
    subst c16
    rw [if_pos rfl] at H
    replace H := Option.bind_eq_some_iff.mp H
    obtain ⟨t340, A170, H⟩ := H
    try dsimp only at H
    have A17 := Aside0.mk A170
    clear A170
    have H' := Aside0.mk H
    clear H
    have p7 : 0 ≤ (x5_1 : Int) := dT
    have q7 : x5_1 < (js4.size : Int) := dT
    have hx7 := bt_at js4 x5_1
    replace p7 := eq_true p7
    replace q7 := eq_true q7
    rotate_left
    replace c16 := Bool.eq_false_iff.mpr c16
    subst c16
    rw [if_neg Bool.false_ne_true] at H
    replace H := Option.bind_eq_some_iff.mp H
    obtain ⟨t343, A200, H⟩ := H
    try dsimp only at H
    have A20 := Aside0.mk A200
    clear A200
    have H' := Aside0.mk H
    clear H
    have p7 : 0 ≤ (x5_1 : Int) := dT
    have q7 : x5_1 < (js4.size : Int) := dT
    have hx7 := bt_at js4 x5_1
    replace p7 := eq_true p7
    replace q7 := eq_true q7
    rotate_left
    replace c14 := Bool.eq_false_iff.mpr c14
    subst c14
    rw [if_neg Bool.false_ne_true] at H
    replace H := Option.bind_eq_some_iff.mp H
    obtain ⟨t346, A230, H⟩ := H
    try dsimp only at H
    have A23 := Aside0.mk A230
    clear A230
    have H' := Aside0.mk H
    clear H
    have p7 : 0 ≤ (x5_1 : Int) := dT
    have q7 : x5_1 < (js4.size : Int) := dT
    have hx7 := bt_at js4 x5_1
    replace p7 := eq_true p7
    replace q7 := eq_true q7
    rotate_left
    replace c12 := Bool.eq_false_iff.mpr c12
    subst c12
    rw [if_neg Bool.false_ne_true] at H
    replace H := Option.bind_eq_some_iff.mp H
    obtain ⟨t349, A260, H⟩ := H
    try dsimp only at H
    have A26 := Aside0.mk A260
    clear A260
    have H' := Aside0.mk H
    clear H
    have p7 : 0 ≤ (x5_1 : Int) := dT
    have q7 : x5_1 < (js4.size : Int) := dT
    have hx7 := bt_at js4 x5_1
    replace p7 := eq_true p7
    replace q7 := eq_true q7
    rotate_left
    replace c10 := Bool.eq_false_iff.mpr c10
    subst c10
    rw [if_neg Bool.false_ne_true] at H
    obtain ⟨ji29, hji29⟩ : ∃ j_ : Int, (wrap64 (x5_1 + 1)) = j_ := ⟨_, rfl⟩
    replace H : (if 0 ≤ (ji29) then (if (ji29) < (js4.size : Int) then ((s_.f (bt js4 (ji29))).bind fun t332 => (if x3_1.length < 140737488355328 then (Unq_.l0 k1 (x3_1 ++ [t332]) js4 (wrap64 (x5_1 + 2))) else (none))) else (none)) else (none)) = some r := by first | (rw [hji29] at H; exact H) | (simp only [hji29] at H ⊢; exact H)
    (try rw [hji29] at A9)
    have hji29w : (IntKind.i64.wrap (x5_1 + 1)) = ji29 := (i64_w _).trans hji29
    by_cases c30 : 0 ≤ (ji29)
    rw [if_pos c30] at H
    have c30b0 := decide_eq_true c30
    clear c30
    by_cases c31 : (ji29) < (js4.size : Int)
    rw [if_pos c31] at H
    have c31b0 := decide_eq_true c31
    clear c31
    replace H := Option.bind_eq_some_iff.mp H
    obtain ⟨t332, A330, H⟩ := H
    try dsimp only at H
    have A33 := Aside0.mk A330
    clear A330
    by_cases c34 : x3_1.length < 140737488355328
    rw [if_pos c34] at H
    have LMc34 := Aside0.mk c34
    clear c34
    obtain ⟨y333, hy333⟩ : ∃ y_ : List Int, y_ = (x3_1 ++ [t332]) := ⟨_, rfl⟩
    replace H : (Unq_.l0 k1 y333 js4 (wrap64 (x5_1 + 2))) = some r := by first | (rw [hy333]; with_reducible exact H) | (have H2_ := (Option.bind_some _ _).symm.trans H; rw [hy333]; with_reducible exact H2_) | (have H2_ := (Option.bind_some _ _).symm.trans H; with_reducible exact H2_) | with_reducible exact H | (rw [hy333]; exact H) | exact H
    have Ny333 := Aside0.mk hy333
    clear hy333
    have H' := Aside0.mk H
    clear H
    have p7 : 0 ≤ (x5_1 : Int) := dT
    have q7 : x5_1 < (js4.size : Int) := dT
    have hx7 := bt_at js4 x5_1
    replace p7 := eq_true p7
    replace q7 := eq_true q7
    rotate_left
    ·
     rw [if_neg c34] at H
     exact absurd H (by simp)
    ·
     rw [if_neg c31] at H
     exact absurd H (by simp)
    ·
     rw [if_neg c30] at H
     exact absurd H (by simp)
    rw [if_neg c8] at H
    have c8b0 := beq_eq_false_iff_ne.mpr c8
    have c8b1 := bne_iff_ne.mpr c8
    by_cases c37 : x3_1.length < 140737488355328
    rw [if_pos c37] at H
    have LMc37 := Aside0.mk c37
    clear c37
    obtain ⟨y327, hy327⟩ : ∃ y_ : List Int, y_ = (x3_1 ++ [bt js4 x5_1]) := ⟨_, rfl⟩
    replace H : (Unq_.l0 k1 y327 js4 (wrap64 (x5_1 + 1))) = some r := by first | (rw [hy327]; with_reducible exact H) | (have H2_ := (Option.bind_some _ _).symm.trans H; rw [hy327]; with_reducible exact H2_) | (have H2_ := (Option.bind_some _ _).symm.trans H; with_reducible exact H2_) | with_reducible exact H | (rw [hy327]; exact H) | exact H
    have Ny327 := Aside0.mk hy327
    clear hy327
    have H' := Aside0.mk H
    clear H
    have p7 : 0 ≤ (x5_1 : Int) := dT
    have q7 : x5_1 < (js4.size : Int) := dT
    have hx7 := bt_at js4 x5_1
    replace p7 := eq_true p7
    replace q7 := eq_true q7
    have p36 : 0 ≤ (x5_1 : Int) := dT
    have q36 : x5_1 < (js4.size : Int) := dT
    have hx36 := bt_at js4 x5_1
    replace p36 := eq_true p36
    replace q36 := eq_true q36
    rotate_left
    ·
     rw [if_neg c37] at H
     exact absurd H (by simp)
    ·
     rw [if_neg c6] at H
     exact absurd H (by simp)
    ·
     rw [if_neg c5] at H
     have c5b0 := decide_eq_false c5
     clear c5
     obtain rfl := Option.some.inj H
     have hcv39 := own_string (P := Tryz.prog) Tryz.underlying51 Tryz.underlying5 Tryz.underlying9 (Kd.own_of_R HO_3.out)
     go_wp2
     go_ret
     exact ⟨by first | rfl | (simp [errX_none, errX_some] <;> rfl) | (simp only [← hjs4]; first | rfl | (simp [errX_none, errX_some] <;> rfl)) | (simp [*, errX_none, errX_some] <;> rfl), zB HB.out⟩
    all_goals go_wp2_with (first | ((with_reducible refine gate_callee (f := 41) rfl ?_); refine goesL_ (some 34) rfl rfl Tryz.func41 (by kernel_rfl) rfl #[.string js4, .int .i64 x5_1] rfl zM ?_; (with_reducible refine (u_.calls k1 js4 x5_1 t330 true _ A9.out).mono ?_); rintro e w' ⟨rfl, ⟨nd, rfl⟩⟩; refine ⟨_, rfl, ?_⟩) | ((with_reducible refine gate_callee (f := 41) rfl ?_); refine goesL_ (some 54) rfl rfl Tryz.func41 (by kernel_rfl) rfl #[.string js4, .int .i64 (wrap64 (x5_1 + 6))] rfl zM ?_; (with_reducible refine (u_.calls k1 js4 (wrap64 (x5_1 + 6)) t336 true _ A11.out).mono ?_); rintro e w' ⟨rfl, ⟨nd, rfl⟩⟩; refine ⟨_, rfl, ?_⟩) | (go_at_call 43; (with_reducible refine (hig_.calls t330 true _ A13.out).mono ?_); rintro e w' ⟨rfl, ⟨nd, rfl⟩⟩) | (go_at_call 44; (with_reducible refine (spec_low.calls t336 true _ A15.out).mono ?_); rintro e w' ⟨rfl, ⟨nd, rfl⟩⟩; obtain ⟨Ao18, co18, eo18⟩ := Kd.R_slice HO_3.out; subst eo18) | ((with_reducible refine gate_callee (f := 45) rfl ?_); refine goesL_ (some 77) rfl rfl Tryz.func45 (by kernel_rfl) rfl #[.slice Ao18 x3_1.length co18, .int .i64 (wrap64 ((wrap64 (65536 + (wrap64 ((wrap64 (t330 - 55296)) * 1024)))) + (wrap64 (t336 - 56320))))] rfl zM ?_; (with_reducible refine (aUTF_.calls k1 (fun k_ => some k_ = (.slice Ao18 x3_1.length co18 : Value).ownBlock) (.slice Ao18 x3_1.length co18) x3_1 (wrap64 ((wrap64 (65536 + (wrap64 ((wrap64 (t330 - 55296)) * 1024)))) + (wrap64 (t336 - 56320)))) t340 w _ ?side1 ?side2 A17.out).mono ?_); (case side1 => exact zB HB.out); (case side2 => exact Kd.R_tight rfl HO_3.out); rintro e w19 ⟨v341, rfl, ho0, hb, hkp⟩; refine ⟨_, rfl, ?_⟩; have HO342 := Aside0.mk (Kd.R_mono (ok' := fun k_ => True) ho0 (fun k_ hk_ => trivial)); replace HB := Aside0.mk (hb); clear HO_3; (try clear hb); (try clear hkp); (try clear ho0)) | (go_at_call 44; (with_reducible refine (spec_low.calls t336 false _ A15.out).mono ?_); rintro e w' ⟨rfl, ⟨nd, rfl⟩⟩; obtain ⟨Ao21, co21, eo21⟩ := Kd.R_slice HO_3.out; subst eo21) | ((with_reducible refine gate_callee (f := 45) rfl ?_); refine goesL_ (some 77) rfl rfl Tryz.func45 (by kernel_rfl) rfl #[.slice Ao21 x3_1.length co21, .int .i64 t330] rfl zM ?_; (with_reducible refine (aUTF_.calls k1 (fun k_ => some k_ = (.slice Ao21 x3_1.length co21 : Value).ownBlock) (.slice Ao21 x3_1.length co21) x3_1 t330 t343 w _ ?side1 ?side2 A20.out).mono ?_); (case side1 => exact zB HB.out); (case side2 => exact Kd.R_tight rfl HO_3.out); rintro e w22 ⟨v344, rfl, ho0, hb, hkp⟩; refine ⟨_, rfl, ?_⟩; have HO345 := Aside0.mk (Kd.R_mono (ok' := fun k_ => True) ho0 (fun k_ hk_ => trivial)); replace HB := Aside0.mk (hb); clear HO_3; (try clear hb); (try clear hkp); (try clear ho0)) | (go_at_call 43; (with_reducible refine (hig_.calls t330 false _ A13.out).mono ?_); rintro e w' ⟨rfl, ⟨nd, rfl⟩⟩; obtain ⟨Ao24, co24, eo24⟩ := Kd.R_slice HO_3.out; subst eo24) | ((with_reducible refine gate_callee (f := 45) rfl ?_); refine goesL_ (some 77) rfl rfl Tryz.func45 (by kernel_rfl) rfl #[.slice Ao24 x3_1.length co24, .int .i64 t330] rfl zM ?_; (with_reducible refine (aUTF_.calls k1 (fun k_ => some k_ = (.slice Ao24 x3_1.length co24 : Value).ownBlock) (.slice Ao24 x3_1.length co24) x3_1 t330 t346 w _ ?side1 ?side2 A23.out).mono ?_); (case side1 => exact zB HB.out); (case side2 => exact Kd.R_tight rfl HO_3.out); rintro e w25 ⟨v347, rfl, ho0, hb, hkp⟩; refine ⟨_, rfl, ?_⟩; have HO348 := Aside0.mk (Kd.R_mono (ok' := fun k_ => True) ho0 (fun k_ hk_ => trivial)); replace HB := Aside0.mk (hb); clear HO_3; (try clear hb); (try clear hkp); (try clear ho0)) | ((with_reducible refine gate_callee (f := 41) rfl ?_); refine goesL_ (some 54) rfl rfl Tryz.func41 (by kernel_rfl) rfl #[.string js4, .int .i64 (wrap64 (x5_1 + 6))] rfl zM ?_; (with_reducible refine (u_.calls k1 js4 (wrap64 (x5_1 + 6)) t336 false _ A11.out).mono ?_); rintro e w' ⟨rfl, ⟨nd, rfl⟩⟩; refine ⟨_, rfl, ?_⟩; obtain ⟨Ao27, co27, eo27⟩ := Kd.R_slice HO_3.out; subst eo27) | ((with_reducible refine gate_callee (f := 45) rfl ?_); refine goesL_ (some 77) rfl rfl Tryz.func45 (by kernel_rfl) rfl #[.slice Ao27 x3_1.length co27, .int .i64 t330] rfl zM ?_; (with_reducible refine (aUTF_.calls k1 (fun k_ => some k_ = (.slice Ao27 x3_1.length co27 : Value).ownBlock) (.slice Ao27 x3_1.length co27) x3_1 t330 t349 w _ ?side1 ?side2 A26.out).mono ?_); (case side1 => exact zB HB.out); (case side2 => exact Kd.R_tight rfl HO_3.out); rintro e w28 ⟨v350, rfl, ho0, hb, hkp⟩; refine ⟨_, rfl, ?_⟩; have HO351 := Aside0.mk (Kd.R_mono (ok' := fun k_ => True) ho0 (fun k_ hk_ => trivial)); replace HB := Aside0.mk (hb); clear HO_3; (try clear hb); (try clear hkp); (try clear ho0)) | ((with_reducible refine gate_callee (f := 41) rfl ?_); refine goesL_ (some 34) rfl rfl Tryz.func41 (by kernel_rfl) rfl #[.string js4, .int .i64 x5_1] rfl zM ?_; (with_reducible refine (u_.calls k1 js4 x5_1 t330 false _ A9.out).mono ?_); rintro e w' ⟨rfl, ⟨nd, rfl⟩⟩; refine ⟨_, rfl, ?_⟩; have p32 : 0 ≤ ((ji29) : Int) := dT; have q32 : (ji29) < (js4.size : Int) := dT; have hx32 := bt_at js4 (ji29); replace p32 := eq_true p32; replace q32 := eq_true q32) | ((with_reducible refine gate_callee (f := 42) rfl ?_); refine goesL_ (some 44) rfl rfl Tryz.func42 (by kernel_rfl) rfl #[.int .u8 (bt js4 (ji29))] rfl (by (try simp only [List.map_toArray, List.map_cons, List.map_nil]); first | done | (simp only [hji29]; rfl) | rfl | (simp only [List.length_drop, List.length_take]; rfl)) ?_; (with_reducible refine (s_.calls (bt js4 (ji29)) t332 _ A33.out).mono ?_); rintro e w' ⟨rfl, ⟨nd, rfl⟩⟩; refine ⟨_, rfl, ?_⟩) | ((with_reducible refine gate_builtin (b := .append) (xs := #[.tmp 39, .tmp 45]) rfl ?_); at_builtin; refine Kd.R_append (Kd.int .u8) (w0 := w) w.heap.size rfl (.tmp 39) (.tmp 45) 51 5 (.int .u8 0) 1 rfl Tryz.underlying51 info5 rfl (by decide) (by omega) u3 x3_1 t332 [.int .u8 t332] (fun _ => True) (fun _ => False) rfl rfl ?aP (fun _ hk => hk.elim) ?aF ?aO ?aB ?aS ?aL ?_; (case aP => exact rfl); (case aB => exact (zB HB.out)); (case aF => exact (fun _ _ => trivial)); (case aO => exact (zR HO_3.out)); (case aS => exact (below_size (zB HB.out))); (case aL => have := LMc34.out; omega); intro v334 w35 ho hb hg hat; rw [← Ny333.out] at ho; replace HB := Aside0.mk (hb); have HO335 := Aside0.mk (ho); clear HO_3; clear ho hb hg hat) | ((with_reducible refine gate_builtin (b := .append) (xs := #[.tmp 23, .tmp 27]) rfl ?_); at_builtin; refine Kd.R_append (Kd.int .u8) (w0 := w) w.heap.size rfl (.tmp 23) (.tmp 27) 51 5 (.int .u8 0) 1 rfl Tryz.underlying51 info5 rfl (by decide) (by omega) u3 x3_1 (bt js4 x5_1) [.int .u8 (bt js4 x5_1)] (fun _ => True) (fun _ => False) rfl rfl ?aP (fun _ hk => hk.elim) ?aF ?aO ?aB ?aS ?aL ?_; (case aP => exact rfl); (case aB => exact (zB HB.out)); (case aF => exact (fun _ _ => trivial)); (case aO => exact (zR HO_3.out)); (case aS => exact (below_size (zB HB.out))); (case aL => have := LMc37.out; omega); intro v328 w38 ho hb hg hat; rw [← Ny327.out] at ho; replace HB := Aside0.mk (hb); have HO329 := Aside0.mk (ho); clear HO_3; clear ho hb hg hat))
    ·
     go_roundg k1
     case measure => have := HK1.out; omega
     case rel => exact ⟨(t340), (wrap64 ((wrap64 (x5_1 + 6)) + 6)), zE, (by first | exact H' | (rw [hjs4]; exact H') | (simp only [hjs4]; exact H') | (simp only [hjs4] at H' ⊢; exact H')), ⟨by have := HK1.out; omega⟩, ⟨by (with_reducible repeat (first | apply Kd.R_alloc | apply Kd.R_drewN | apply Kd.R_drew)); exact HO342.out⟩, ⟨zB HB.out⟩⟩
    ·
     go_roundg k1
     case measure => have := HK1.out; omega
     case rel => exact ⟨(t343), (wrap64 (x5_1 + 6)), zE, (by first | exact H' | (rw [hjs4]; exact H') | (simp only [hjs4]; exact H') | (simp only [hjs4] at H' ⊢; exact H')), ⟨by have := HK1.out; omega⟩, ⟨by (with_reducible repeat (first | apply Kd.R_alloc | apply Kd.R_drewN | apply Kd.R_drew)); exact HO345.out⟩, ⟨zB HB.out⟩⟩
    ·
     go_roundg k1
     case measure => have := HK1.out; omega
     case rel => exact ⟨(t346), (wrap64 (x5_1 + 6)), zE, (by first | exact H' | (rw [hjs4]; exact H') | (simp only [hjs4]; exact H') | (simp only [hjs4] at H' ⊢; exact H')), ⟨by have := HK1.out; omega⟩, ⟨by (with_reducible repeat (first | apply Kd.R_alloc | apply Kd.R_drewN | apply Kd.R_drew)); exact HO348.out⟩, ⟨zB HB.out⟩⟩
    ·
     go_roundg k1
     case measure => have := HK1.out; omega
     case rel => exact ⟨(t349), (wrap64 (x5_1 + 6)), zE, (by first | exact H' | (rw [hjs4]; exact H') | (simp only [hjs4]; exact H') | (simp only [hjs4] at H' ⊢; exact H')), ⟨by have := HK1.out; omega⟩, ⟨by (with_reducible repeat (first | apply Kd.R_alloc | apply Kd.R_drewN | apply Kd.R_drew)); exact HO351.out⟩, ⟨zB HB.out⟩⟩
    ·
     go_roundg k1
     case measure => have := HK1.out; omega
     case rel => exact ⟨(y333), (wrap64 (x5_1 + 2)), zE, (by first | exact H' | (rw [hji29]; exact H') | (simp only [hjs4, hji29]; exact H') | (simp only [hjs4, hji29] at H' ⊢; exact H')), ⟨by have := HK1.out; omega⟩, ⟨by (with_reducible repeat (first | apply Kd.R_alloc | apply Kd.R_drewN | apply Kd.R_drew)); exact HO335.out⟩, ⟨zB HB.out⟩⟩
    ·
     go_roundg k1
     case measure => have := HK1.out; omega
     case rel => exact ⟨(y327), (wrap64 (x5_1 + 1)), zE, (by first | exact H' | (rw [hjs4]; exact H') | (simp only [hjs4]; exact H') | (simp only [hjs4] at H' ⊢; exact H')), ⟨by have := HK1.out; omega⟩, ⟨by (with_reducible repeat (first | apply Kd.R_alloc | apply Kd.R_drewN | apply Kd.R_drew)); exact HO329.out⟩, ⟨zB HB.out⟩⟩
  rw [if_neg c3] at H
  exact absurd H (by simp)
 rw [if_neg c2] at H
 exact absurd H (by simp)
end Go.Proofs.YtpdohioobbfncaaGreatDoor.PFnJpWildStop