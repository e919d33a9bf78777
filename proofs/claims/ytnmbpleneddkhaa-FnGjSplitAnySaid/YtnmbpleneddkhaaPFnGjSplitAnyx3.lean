/- what the Go functions that the law FnGjSplitAny reaches compute, each as a plain function, with the proof that the Go code computes just that; no condition beside those that each theorem states. -/
import Derived.Test.YtnmbpleneddkhaaPFnGjSplitAnyx0
import Derived.Test.YtnmbpleneddkhaaPFnGjSplitAnyx2
namespace Go.Proofs.Ytnmbpleneddkhaa.PFnGjSplitAny
open Go.RowKit Go.Proofs.YtnmbpleneddkhaaW.PrintWords Go.Proofs.YtnmbpleneddkhaaW.PrintLast Go.Proofs.YtnmbpleneddkhaaW.PrintMore
set_option linter.unusedVariables false
set_option linter.unusedSimpArgs false
def gjson_DoorPipe.f (k : Nat) (a0 : ByteArray) : Option (ByteArray × ByteArray × Bool) := (gjson_splitPossiblePipe.f k a0).bind fun bt102 => (some (bt102.1, bt102.2.1, bt102.2.2))
theorem gjson_DoorPipe.mono : ∀ a0 k, LeO (gjson_DoorPipe.f k a0) (gjson_DoorPipe.f (k + 1) a0) := by
  intro a0 k
  unfold gjson_DoorPipe.f
  repeat' first
      | (with_reducible exact gjson_splitPossiblePipe.mono _ _)
      | (with_reducible exact LeO.refl _)
      | (with_reducible exact LeO.none _)
      | (with_reducible refine LeO.ite ?_ ?_)
      | (with_reducible refine LeO.bind ?_ (fun _ => ?_))
      | exact gjson_splitPossiblePipe.mono _ _
      | exact LeO.none _
      | refine LeO.ite ?_ ?_
      | refine LeO.bind ?_ (fun _ => ?_)
set_option maxHeartbeats 8000000 in
set_option maxRecDepth 100000 in
theorem gjson_DoorPipe.calls (k : Nat) (a0 : ByteArray) (r1 : ByteArray) (r2 : ByteArray) (r3 : Bool) (w : World) (h : gjson_DoorPipe.f k a0 = some (r1, r2, r3)) :
    Calls Try.prog 32 #[.string a0] w fun e w' => e = .returned (.tuple #[.string r1, .string r2, .bool r3]) ∧ Drawn0 w w' := by
 have H : ((gjson_splitPossiblePipe.f k a0).bind fun bt102 => (some (bt102.1, bt102.2.1, bt102.2.2))) = some (r1, r2, r3) := h
 clear h
 replace H := Option.bind_eq_some_iff.mp H
 obtain ⟨⟨t102, t103, t104⟩, A20, H⟩ := H
 replace H : (some (t102, t103, t104)) = some (r1, r2, r3) := H
 have A2 := Aside0.mk A20
 clear A20
 simp only [Option.some.injEq, Prod.mk.injEq] at H
 obtain ⟨rfl, rfl, rfl⟩ := H
 go_enter Try.func32, Try.ntmps32
 go_wp2_with (first | ((with_reducible refine gate_callee (f := 46) rfl ?_); refine goesL_ (some 6) rfl rfl Try.func46 (by kernel_rfl) rfl #[.string a0] rfl (by (try simp only [List.map_toArray, List.map_cons, List.map_nil]); first | done | rfl | (simp only [List.length_drop, List.length_take]; rfl)) ?_; (with_reducible refine (gjson_splitPossiblePipe.calls k a0 t102 t103 t104 _ A2.out).mono ?_); rintro e w' ⟨rfl, ⟨nd, rfl⟩⟩; refine ⟨_, rfl, ?_⟩))
 go_ret3
 exact ⟨by first | rfl | (simp; done) | (simp [*]; done), by repeat (first | exact Drawn0.refl _ | apply Drawn0.step)⟩
def impl_GjSplitPipe.f (k : Nat) (a0 : ByteArray) : Option (ByteArray × ByteArray × Bool) := (gjson_DoorPipe.f k a0).bind fun bt105 => (some (bt105.1, bt105.2.1, bt105.2.2))
theorem impl_GjSplitPipe.mono : ∀ a0 k, LeO (impl_GjSplitPipe.f k a0) (impl_GjSplitPipe.f (k + 1) a0) := by
  intro a0 k
  unfold impl_GjSplitPipe.f
  repeat' first
      | (with_reducible exact gjson_DoorPipe.mono _ _)
      | (with_reducible exact LeO.refl _)
      | (with_reducible exact LeO.none _)
      | (with_reducible refine LeO.ite ?_ ?_)
      | (with_reducible refine LeO.bind ?_ (fun _ => ?_))
      | exact gjson_DoorPipe.mono _ _
      | exact LeO.none _
      | refine LeO.ite ?_ ?_
      | refine LeO.bind ?_ (fun _ => ?_)
set_option maxHeartbeats 8000000 in
set_option maxRecDepth 100000 in
theorem impl_GjSplitPipe.calls (k : Nat) (a0 : ByteArray) (r1 : ByteArray) (r2 : ByteArray) (r3 : Bool) (w : World) (h : impl_GjSplitPipe.f k a0 = some (r1, r2, r3)) :
    Calls Try.prog 22 #[.string a0] w fun e w' => e = .returned (.tuple #[.string r1, .string r2, .bool r3]) ∧ Drawn0 w w' := by
 have H : ((gjson_DoorPipe.f k a0).bind fun bt105 => (some (bt105.1, bt105.2.1, bt105.2.2))) = some (r1, r2, r3) := h
 clear h
 replace H := Option.bind_eq_some_iff.mp H
 obtain ⟨⟨t105, t106, t107⟩, A20, H⟩ := H
 replace H : (some (t105, t106, t107)) = some (r1, r2, r3) := H
 have A2 := Aside0.mk A20
 clear A20
 simp only [Option.some.injEq, Prod.mk.injEq] at H
 obtain ⟨rfl, rfl, rfl⟩ := H
 go_enter Try.func22, Try.ntmps22
 go_wp2_with (first | ((with_reducible refine gate_callee (f := 32) rfl ?_); refine goesL_ (some 6) rfl rfl Try.func32 (by kernel_rfl) rfl #[.string a0] rfl (by (try simp only [List.map_toArray, List.map_cons, List.map_nil]); first | done | rfl | (simp only [List.length_drop, List.length_take]; rfl)) ?_; (with_reducible refine (gjson_DoorPipe.calls k a0 t105 t106 t107 _ A2.out).mono ?_); rintro e w' ⟨rfl, ⟨nd, rfl⟩⟩; refine ⟨_, rfl, ?_⟩))
 go_ret3
 exact ⟨by first | rfl | (simp; done) | (simp [*]; done), by repeat (first | exact Drawn0.refl _ | apply Drawn0.step)⟩
def laws_FnGjSplitAny.l0 : Nat → ByteArray → ByteArray → ByteArray → Bool → Bool → Int → Option (Bool)
  | 0, _, _, _, _, _, _ => none
  | k + 1, x0, x3, x4, x5, x6, x7 => if x7 < (x0.size : Int) then (if x6 = true then (laws_FnGjSplitAny.l0 k x0 x3 x4 x5 true (wrap64 (x7 + 1))) else (if 0 ≤ x7 then (laws_FnGjSplitAny.l0 k x0 x3 x4 x5 ((bt x0 x7) == 124) (wrap64 (x7 + 1))) else (none))) else (if x5 = true then (if x6 = true then (if x3.size + 1 ≤ 9223372036854775807 then (if (x3 ++ (⟨#[124]⟩ : ByteArray)).size + x4.size ≤ 9223372036854775807 then (if ((x3 ++ (⟨#[124]⟩ : ByteArray)) ++ x4).toList = x0.toList then ((impl_GjSplitPipe.f k (⟨#[97, 124, 98]⟩ : ByteArray)).bind fun bt111 => (if bt111.2.2 = true then (if bt111.1.toList = ([97] : List UInt8) then (some (bt111.2.1.toList == ([98] : List UInt8))) else (some false)) else (some false))) else (some false)) else (none)) else (none)) else (some false)) else ((impl_GjSplitPipe.f k (⟨#[97, 124, 98]⟩ : ByteArray)).bind fun bt114 => (if bt114.2.2 = true then (if bt114.1.toList = ([97] : List UInt8) then (some (bt114.2.1.toList == ([98] : List UInt8))) else (some false)) else (some false))))
def laws_FnGjSplitAny.f (k : Nat) (a0 : ByteArray) : Option (Bool) := if (a0.size : Int) > 2147483647 then (some true) else (if (a0.size : Int) > 4096 then (some true) else ((impl_GjSplitPipe.f k a0).bind fun bt108 => (laws_FnGjSplitAny.l0 k a0 bt108.1 bt108.2.1 bt108.2.2 false 0)))
set_option maxHeartbeats 8000000 in
set_option maxRecDepth 100000 in
theorem laws_FnGjSplitAny.calls (k : Nat) (a0 : ByteArray) (r : Bool) (w : World) (h : laws_FnGjSplitAny.f k a0 = some r) :
    Calls Try.prog 8 #[.string a0] w fun e w' => e = .returned (.bool r) ∧ Drawn0 w w' := by
 have H : (if (a0.size : Int) > 2147483647 then (some true) else (if (a0.size : Int) > 4096 then (some true) else ((impl_GjSplitPipe.f k a0).bind fun bt108 => (laws_FnGjSplitAny.l0 k a0 bt108.1 bt108.2.1 bt108.2.2 false 0)))) = some r := h
 clear h
 by_cases c2 : (a0.size : Int) > 2147483647
 ·
  rw [if_pos c2] at H
  have c2b0 : decide (2147483647 < (a0.size : Int)) = true := decide_eq_true c2
  have c2b1 : decide (2147483647 < a0.size) = true := decide_eq_true (by omega)
  clear c2
  obtain rfl := Option.some.inj H
  go_enter Try.func8, Try.ntmps8
  go_wp2
  go_ret
  exact ⟨by first | rfl | (simp; done) | (simp [*]; done), by repeat (first | exact Drawn0.refl _ | apply Drawn0.step)⟩
 ·
  rw [if_neg c2] at H
  have c2b0 : decide (2147483647 < (a0.size : Int)) = false := decide_eq_false c2
  have c2b1 : decide (2147483647 < a0.size) = false := decide_eq_false (by omega)
  clear c2
  by_cases c3 : (a0.size : Int) > 4096
  ·
   rw [if_pos c3] at H
   have c3b0 : decide (4096 < (a0.size : Int)) = true := decide_eq_true c3
   have c3b1 : decide (4096 < a0.size) = true := decide_eq_true (by omega)
   clear c3
   obtain rfl := Option.some.inj H
   go_enter Try.func8, Try.ntmps8
   go_wp2
   go_ret
   exact ⟨by first | rfl | (simp; done) | (simp [*]; done), by repeat (first | exact Drawn0.refl _ | apply Drawn0.step)⟩
  ·
   rw [if_neg c3] at H
   have c3b0 : decide (4096 < (a0.size : Int)) = false := decide_eq_false c3
   have c3b1 : decide (4096 < a0.size) = false := decide_eq_false (by omega)
   clear c3
   replace H := Option.bind_eq_some_iff.mp H
   obtain ⟨⟨t108, t109, t110⟩, A40, H⟩ := H
   replace H : (laws_FnGjSplitAny.l0 k a0 t108 t109 t110 false 0) = some r := H
   have A4 := Aside0.mk A40
   clear A40
   have H' := Aside0.mk H
   clear H
   go_enter Try.func8, Try.ntmps8
   go_wp2_with (first | ((with_reducible refine gate_callee (f := 22) rfl ?_); refine goesL_ (some 19) rfl rfl Try.func22 (by kernel_rfl) rfl #[.string a0] rfl (by (try simp only [List.map_toArray, List.map_cons, List.map_nil]); first | done | rfl | (simp only [List.length_drop, List.length_take]; rfl)) ?_; (with_reducible refine (impl_GjSplitPipe.calls k a0 t108 t109 t110 _ A4.out).mono ?_); rintro e w' ⟨rfl, ⟨nd, rfl⟩⟩; refine ⟨_, rfl, ?_⟩))
   try simp only [Act.put, List.setIfInBounds_toArray, List.set_cons_succ, List.set_cons_zero]
   go_loopg [6, 7] k (fun kq v6 v7 w' => ∃ (x6_1 : Bool) (x7_1 : Int), v6 = .bool x6_1 ∧ v7 = .int .i64 x7_1 ∧ Aside0 (laws_FnGjSplitAny.l0 kq a0 t108 t109 t110 x6_1 x7_1 = some r) ∧ Aside0 (kq ≤ k) ∧ Drawn0 w w')
   case atStart => exact ⟨(false), (0), (by first | rfl | (simp; done) | (simp [*]; done)), (by first | rfl | (simp; done) | (simp [*]; done)), H', ⟨Nat.le_refl _⟩, by repeat (first | exact Drawn0.refl _ | apply Drawn0.step)⟩
   case round =>
    clear H'
    try clear c2
    try clear c2b0
    try clear c2b1
    try clear p2
    try clear c3
    try clear c3b0
    try clear c3b1
    obtain ⟨x6_1, x7_1, rfl, rfl, HA, HK1, ⟨m1, rfl⟩⟩ := hrel
    cases gk with
    | zero => exact absurd HA.out (by simp [laws_FnGjSplitAny.l0])
    | succ k1 =>
     have H := HA.out
     clear HA
     simp only [laws_FnGjSplitAny.l0] at H
     by_cases c5 : x7_1 < (a0.size : Int)
     ·
      rw [if_pos c5] at H
      have c5b0 : decide (x7_1 < (a0.size : Int)) = true := decide_eq_true c5
      clear c5
      by_cases c6 : x6_1 = true
      ·
       subst c6
       have H1 : (laws_FnGjSplitAny.l0 k1 a0 t108 t109 t110 true (wrap64 (x7_1 + 1))) = some r := by rw [if_pos rfl] at H; exact H
       clear H
       have H := H1
       clear H1
       have H' := Aside0.mk H
       clear H
       go_wp2
       go_roundg k1
       case measure => have := HK1.out; omega
       case rel => exact ⟨(true), (wrap64 (x7_1 + 1)), (by first | rfl | (simp; done) | (simp [*]; done)), (by first | rfl | (simp; done) | (simp [*]; done)), H', ⟨by have := HK1.out; omega⟩, by repeat (first | exact Drawn0.refl _ | apply Drawn0.step)⟩
      ·
       replace c6 := Bool.eq_false_iff.mpr c6
       subst c6
       have H1 : (if 0 ≤ x7_1 then (laws_FnGjSplitAny.l0 k1 a0 t108 t109 t110 ((bt a0 x7_1) == 124) (wrap64 (x7_1 + 1))) else (none)) = some r := by rw [if_neg (show ¬ (false = true) by decide)] at H; exact H
       clear H
       have H := H1
       clear H1
       by_cases c7 : 0 ≤ x7_1
       ·
        rw [if_pos c7] at H
        have c7b0 : decide (0 ≤ x7_1) = true := decide_eq_true c7
        clear c7
        have H' := Aside0.mk H
        clear H
        have p8 : 0 ≤ (x7_1 : Int) := of_decide_eq_true (by first | (with_reducible assumption) | assumption)
        have q8 : x7_1 < (a0.size : Int) := of_decide_eq_true (by first | (with_reducible assumption) | assumption)
        have hx8 := bt_at a0 x7_1
        replace p8 := eq_true p8
        replace q8 := eq_true q8
        go_wp2
        go_roundg k1
        case measure => have := HK1.out; omega
        case rel => exact ⟨(((bt a0 x7_1) == 124)), (wrap64 (x7_1 + 1)), (by first | rfl | (simp; done) | (simp [*]; done)), (by first | rfl | (simp; done) | (simp [*]; done)), H', ⟨by have := HK1.out; omega⟩, by repeat (first | exact Drawn0.refl _ | apply Drawn0.step)⟩
       ·
        rw [if_neg c7] at H
        exact absurd H (by simp)
     ·
      rw [if_neg c5] at H
      have c5b0 : decide (x7_1 < (a0.size : Int)) = false := decide_eq_false c5
      clear c5
      by_cases c9 : t110 = true
      ·
       subst c9
       have H1 : (if x6_1 = true then (if t108.size + 1 ≤ 9223372036854775807 then (if (t108 ++ (⟨#[124]⟩ : ByteArray)).size + t109.size ≤ 9223372036854775807 then (if ((t108 ++ (⟨#[124]⟩ : ByteArray)) ++ t109).toList = a0.toList then ((impl_GjSplitPipe.f k1 (⟨#[97, 124, 98]⟩ : ByteArray)).bind fun bt111 => (if bt111.2.2 = true then (if bt111.1.toList = ([97] : List UInt8) then (some (bt111.2.1.toList == ([98] : List UInt8))) else (some false)) else (some false))) else (some false)) else (none)) else (none)) else (some false)) = some r := by rw [if_pos rfl] at H; exact H
       clear H
       have H := H1
       clear H1
       by_cases c10 : x6_1 = true
       ·
        subst c10
        have H1 : (if t108.size + 1 ≤ 9223372036854775807 then (if (t108 ++ (⟨#[124]⟩ : ByteArray)).size + t109.size ≤ 9223372036854775807 then (if ((t108 ++ (⟨#[124]⟩ : ByteArray)) ++ t109).toList = a0.toList then ((impl_GjSplitPipe.f k1 (⟨#[97, 124, 98]⟩ : ByteArray)).bind fun bt111 => (if bt111.2.2 = true then (if bt111.1.toList = ([97] : List UInt8) then (some (bt111.2.1.toList == ([98] : List UInt8))) else (some false)) else (some false))) else (some false)) else (none)) else (none)) = some r := by rw [if_pos rfl] at H; exact H
        clear H
        have H := H1
        clear H1
        by_cases c11 : t108.size + 1 ≤ 9223372036854775807
        ·
         rw [if_pos c11] at H
         have c11b0 := eq_true c11
         have c11b1 : decide (t108.size + 1 ≤ 9223372036854775807) = true := decide_eq_true c11
         try have c11b2 : (9223372036854775807 < t108.size + 1) = False := eq_false (Nat.not_lt.2 c11)
         by_cases c12 : (t108 ++ (⟨#[124]⟩ : ByteArray)).size + t109.size ≤ 9223372036854775807
         ·
          rw [if_pos c12] at H
          have c12b0 := eq_true c12
          have c12b1 : decide ((t108 ++ (⟨#[124]⟩ : ByteArray)).size + t109.size ≤ 9223372036854775807) = true := decide_eq_true c12
          try have c12b2 : (9223372036854775807 < (t108 ++ (⟨#[124]⟩ : ByteArray)).size + t109.size) = False := eq_false (Nat.not_lt.2 c12)
          by_cases c13 : ((t108 ++ (⟨#[124]⟩ : ByteArray)) ++ t109).toList = a0.toList
          ·
           rw [if_pos c13] at H
           have c13b0 : (((t108 ++ (⟨#[124]⟩ : ByteArray)) ++ t109).toList == a0.toList) = true := beq_iff_eq.mpr c13
           have c13b1 : (((t108 ++ (⟨#[124]⟩ : ByteArray)) ++ t109).toList != a0.toList) = false := bne_eq_false_iff_eq.mpr c13
           clear c13
           replace H := Option.bind_eq_some_iff.mp H
           obtain ⟨⟨t111, t112, t113⟩, A140, H⟩ := H
           replace H : (if t113 = true then (if t111.toList = ([97] : List UInt8) then (some (t112.toList == ([98] : List UInt8))) else (some false)) else (some false)) = some r := H
           have A14 := Aside0.mk A140
           clear A140
           by_cases c15 : t113 = true
           ·
            subst c15
            have H1 : (if t111.toList = ([97] : List UInt8) then (some (t112.toList == ([98] : List UInt8))) else (some false)) = some r := by rw [if_pos rfl] at H; exact H
            clear H
            have H := H1
            clear H1
            by_cases c16 : t111.toList = ([97] : List UInt8)
            ·
             rw [if_pos c16] at H
             have c16b0 : (t111.toList == ([97] : List UInt8)) = true := beq_iff_eq.mpr c16
             have c16b1 : (t111.toList != ([97] : List UInt8)) = false := bne_eq_false_iff_eq.mpr c16
             clear c16
             obtain rfl := Option.some.inj H
             go_wp2_with (first | ((with_reducible refine gate_callee (f := 22) rfl ?_); refine goesL_ (some 50) rfl rfl Try.func22 (by kernel_rfl) rfl #[.string (⟨#[97, 124, 98]⟩ : ByteArray)] rfl (by (try simp only [List.map_toArray, List.map_cons, List.map_nil]); first | done | rfl | (simp only [List.length_drop, List.length_take]; rfl)) ?_; (with_reducible refine (impl_GjSplitPipe.calls k1 (⟨#[97, 124, 98]⟩ : ByteArray) t111 t112 true _ A14.out).mono ?_); rintro e w' ⟨rfl, ⟨nd, rfl⟩⟩; refine ⟨_, rfl, ?_⟩))
             go_ret
             exact ⟨by first | rfl | (simp; done) | (simp [*]; done), by repeat (first | exact Drawn0.refl _ | apply Drawn0.step)⟩
            ·
             rw [if_neg c16] at H
             have c16b0 : (t111.toList == ([97] : List UInt8)) = false := beq_eq_false_iff_ne.mpr c16
             have c16b1 : (t111.toList != ([97] : List UInt8)) = true := bne_iff_ne.mpr c16
             obtain rfl := Option.some.inj H
             go_wp2_with (first | ((with_reducible refine gate_callee (f := 22) rfl ?_); refine goesL_ (some 50) rfl rfl Try.func22 (by kernel_rfl) rfl #[.string (⟨#[97, 124, 98]⟩ : ByteArray)] rfl (by (try simp only [List.map_toArray, List.map_cons, List.map_nil]); first | done | rfl | (simp only [List.length_drop, List.length_take]; rfl)) ?_; (with_reducible refine (impl_GjSplitPipe.calls k1 (⟨#[97, 124, 98]⟩ : ByteArray) t111 t112 true _ A14.out).mono ?_); rintro e w' ⟨rfl, ⟨nd, rfl⟩⟩; refine ⟨_, rfl, ?_⟩))
             go_ret
             exact ⟨by first | rfl | (simp; done) | (simp [*]; done), by repeat (first | exact Drawn0.refl _ | apply Drawn0.step)⟩
           ·
            replace c15 := Bool.eq_false_iff.mpr c15
            subst c15
            have H1 : (some false) = some r := by rw [if_neg (show ¬ (false = true) by decide)] at H; exact H
            clear H
            have H := H1
            clear H1
            obtain rfl := Option.some.inj H
            go_wp2_with (first | ((with_reducible refine gate_callee (f := 22) rfl ?_); refine goesL_ (some 50) rfl rfl Try.func22 (by kernel_rfl) rfl #[.string (⟨#[97, 124, 98]⟩ : ByteArray)] rfl (by (try simp only [List.map_toArray, List.map_cons, List.map_nil]); first | done | rfl | (simp only [List.length_drop, List.length_take]; rfl)) ?_; (with_reducible refine (impl_GjSplitPipe.calls k1 (⟨#[97, 124, 98]⟩ : ByteArray) t111 t112 false _ A14.out).mono ?_); rintro e w' ⟨rfl, ⟨nd, rfl⟩⟩; refine ⟨_, rfl, ?_⟩))
            go_ret
            exact ⟨by first | rfl | (simp; done) | (simp [*]; done), by repeat (first | exact Drawn0.refl _ | apply Drawn0.step)⟩
          ·
           rw [if_neg c13] at H
           have c13b0 : (((t108 ++ (⟨#[124]⟩ : ByteArray)) ++ t109).toList == a0.toList) = false := beq_eq_false_iff_ne.mpr c13
           have c13b1 : (((t108 ++ (⟨#[124]⟩ : ByteArray)) ++ t109).toList != a0.toList) = true := bne_iff_ne.mpr c13
           obtain rfl := Option.some.inj H
           go_wp2
           go_ret
           exact ⟨by first | rfl | (simp; done) | (simp [*]; done), by repeat (first | exact Drawn0.refl _ | apply Drawn0.step)⟩
         ·
          rw [if_neg c12] at H
          exact absurd H (by simp)
        ·
         rw [if_neg c11] at H
         exact absurd H (by simp)
       ·
        replace c10 := Bool.eq_false_iff.mpr c10
        subst c10
        have H1 : (some false) = some r := by rw [if_neg (show ¬ (false = true) by decide)] at H; exact H
        clear H
        have H := H1
        clear H1
        obtain rfl := Option.some.inj H
        go_wp2
        go_ret
        exact ⟨by first | rfl | (simp; done) | (simp [*]; done), by repeat (first | exact Drawn0.refl _ | apply Drawn0.step)⟩
      ·
       replace c9 := Bool.eq_false_iff.mpr c9
       subst c9
       have H1 : ((impl_GjSplitPipe.f k1 (⟨#[97, 124, 98]⟩ : ByteArray)).bind fun bt114 => (if bt114.2.2 = true then (if bt114.1.toList = ([97] : List UInt8) then (some (bt114.2.1.toList == ([98] : List UInt8))) else (some false)) else (some false))) = some r := by rw [if_neg (show ¬ (false = true) by decide)] at H; exact H
       clear H
       have H := H1
       clear H1
       replace H := Option.bind_eq_some_iff.mp H
       obtain ⟨⟨t114, t115, t116⟩, A170, H⟩ := H
       replace H : (if t116 = true then (if t114.toList = ([97] : List UInt8) then (some (t115.toList == ([98] : List UInt8))) else (some false)) else (some false)) = some r := H
       have A17 := Aside0.mk A170
       clear A170
       by_cases c18 : t116 = true
       ·
        subst c18
        have H1 : (if t114.toList = ([97] : List UInt8) then (some (t115.toList == ([98] : List UInt8))) else (some false)) = some r := by rw [if_pos rfl] at H; exact H
        clear H
        have H := H1
        clear H1
        by_cases c19 : t114.toList = ([97] : List UInt8)
        ·
         rw [if_pos c19] at H
         have c19b0 : (t114.toList == ([97] : List UInt8)) = true := beq_iff_eq.mpr c19
         have c19b1 : (t114.toList != ([97] : List UInt8)) = false := bne_eq_false_iff_eq.mpr c19
         clear c19
         obtain rfl := Option.some.inj H
         go_wp2_with (first | ((with_reducible refine gate_callee (f := 22) rfl ?_); refine goesL_ (some 50) rfl rfl Try.func22 (by kernel_rfl) rfl #[.string (⟨#[97, 124, 98]⟩ : ByteArray)] rfl (by (try simp only [List.map_toArray, List.map_cons, List.map_nil]); first | done | rfl | (simp only [List.length_drop, List.length_take]; rfl)) ?_; (with_reducible refine (impl_GjSplitPipe.calls k1 (⟨#[97, 124, 98]⟩ : ByteArray) t114 t115 true _ A17.out).mono ?_); rintro e w' ⟨rfl, ⟨nd, rfl⟩⟩; refine ⟨_, rfl, ?_⟩))
         go_ret
         exact ⟨by first | rfl | (simp; done) | (simp [*]; done), by repeat (first | exact Drawn0.refl _ | apply Drawn0.step)⟩
        ·
         rw [if_neg c19] at H
         have c19b0 : (t114.toList == ([97] : List UInt8)) = false := beq_eq_false_iff_ne.mpr c19
         have c19b1 : (t114.toList != ([97] : List UInt8)) = true := bne_iff_ne.mpr c19
         obtain rfl := Option.some.inj H
         go_wp2_with (first | ((with_reducible refine gate_callee (f := 22) rfl ?_); refine goesL_ (some 50) rfl rfl Try.func22 (by kernel_rfl) rfl #[.string (⟨#[97, 124, 98]⟩ : ByteArray)] rfl (by (try simp only [List.map_toArray, List.map_cons, List.map_nil]); first | done | rfl | (simp only [List.length_drop, List.length_take]; rfl)) ?_; (with_reducible refine (impl_GjSplitPipe.calls k1 (⟨#[97, 124, 98]⟩ : ByteArray) t114 t115 true _ A17.out).mono ?_); rintro e w' ⟨rfl, ⟨nd, rfl⟩⟩; refine ⟨_, rfl, ?_⟩))
         go_ret
         exact ⟨by first | rfl | (simp; done) | (simp [*]; done), by repeat (first | exact Drawn0.refl _ | apply Drawn0.step)⟩
       ·
        replace c18 := Bool.eq_false_iff.mpr c18
        subst c18
        have H1 : (some false) = some r := by rw [if_neg (show ¬ (false = true) by decide)] at H; exact H
        clear H
        have H := H1
        clear H1
        obtain rfl := Option.some.inj H
        go_wp2_with (first | ((with_reducible refine gate_callee (f := 22) rfl ?_); refine goesL_ (some 50) rfl rfl Try.func22 (by kernel_rfl) rfl #[.string (⟨#[97, 124, 98]⟩ : ByteArray)] rfl (by (try simp only [List.map_toArray, List.map_cons, List.map_nil]); first | done | rfl | (simp only [List.length_drop, List.length_take]; rfl)) ?_; (with_reducible refine (impl_GjSplitPipe.calls k1 (⟨#[97, 124, 98]⟩ : ByteArray) t114 t115 false _ A17.out).mono ?_); rintro e w' ⟨rfl, ⟨nd, rfl⟩⟩; refine ⟨_, rfl, ?_⟩))
        go_ret
        exact ⟨by first | rfl | (simp; done) | (simp [*]; done), by repeat (first | exact Drawn0.refl _ | apply Drawn0.step)⟩
/-- THE ONE PURE STATEMENT of laws_FnGjSplitAny: yours. -/
def laws_FnGjSplitAny.Pure : Prop := ∀ (a0 : ByteArray), a0.size ≤ 140737488351232 → ∃ k, laws_FnGjSplitAny.f k a0 = some true
theorem laws_FnGjSplitAny.walk (P : laws_FnGjSplitAny.Pure) (a0 : ByteArray) (w : World) (w0 : a0.size ≤ 140737488351232) :
    Calls Try.prog 8 #[.string a0] w fun e w' => e = .returned (.bool true) ∧ Below w.heap.size w w' := by
  obtain ⟨k, h⟩ := P a0 w0
  refine (laws_FnGjSplitAny.calls k a0 true w h).mono ?_
  rintro e w' ⟨rfl, hd⟩
  exact ⟨rfl, hd.below⟩
end Go.Proofs.Ytnmbpleneddkhaa.PFnGjSplitAny