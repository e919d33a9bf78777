-- Written by a program of this session (wip/prx) out of the print of the loaded functions.
import Derived.Test.YtljmeaemonpkoaaDoorPFnSjStringJoinx0
import Derived.Test.YtljmeaemonpkoaaDoorPFnSjStringJoinx1
import Derived.Test.YtljmeaemonpkoaaDoorPFnSjStringJoinx4
import Derived.Test.YtljmeaemonpkoaaDoorGUFnSjStringJoin
namespace Go.Proofs.YtljmeaemonpkoaaDoor.PFnSjStringJoin
open Go.RowKit Go.Proofs.YtljmeaemonpkoaaDoorW.PrintWords Go.Proofs.YtljmeaemonpkoaaDoorW.PrintLast Go.Proofs.YtljmeaemonpkoaaDoorW.PrintMore
attribute [local go_sem] max2_int min2_int max_two min_two max_three min_three max_four min_four   -- for this text's walks alone
set_option linter.unusedVariables false
set_option linter.unusedSimpArgs false

/-! ### laws_FnSjStringJoin: function 3 -/
mutual
def laws_FnSjStringJoin.j0 : Nat → ByteArray → ByteArray → Bool → Option (Bool)
  | 0, _, _, _ => none
  | k + 1, x0, x1, x14 => if x14 = true then (some true) else (if (wrap64 ((x0.size : Int) + (x1.size : Int))) > 4096 then (laws_FnSjStringJoin.j1 k x0 x1 true) else ((spec_UTF8.f k x0).bind fun t212 => (if t212 = true then ((spec_UTF8.f k x1).bind fun t213 => (laws_FnSjStringJoin.j1 k x0 x1 (!t213))) else (laws_FnSjStringJoin.j1 k x0 x1 true))))
def laws_FnSjStringJoin.j1 : Nat → ByteArray → ByteArray → Bool → Option (Bool)
  | 0, _, _, _ => none
  | k + 1, x0, x1, x30 => if x30 = true then (some true) else (if x0.size + 1 ≤ 9223372036854775807 then (if 1 + x1.size ≤ 9223372036854775807 then ((impl_SjString.f k (x0 ++ (⟨#[10]⟩ : ByteArray))).bind fun t214 => ((impl_SjString.f k ((⟨#[92]⟩ : ByteArray) ++ x1)).bind fun t215 => (if (t214.size : Int) > 1 then (if (t215.size : Int) > 1 then (if (x0 ++ (⟨#[10]⟩ : ByteArray)).size + ((⟨#[92]⟩ : ByteArray) ++ x1).size ≤ 9223372036854775807 then ((impl_SjString.f k ((x0 ++ (⟨#[10]⟩ : ByteArray)) ++ ((⟨#[92]⟩ : ByteArray) ++ x1))).bind fun t216 => (if 0 ≤ (wrap64 ((t214.size : Int) - 1)) then (if (wrap64 ((t214.size : Int) - 1)) ≤ (t214.size : Int) then (if 1 ≤ (t215.size : Int) then (if (t214.extract 0 ((wrap64 ((t214.size : Int) - 1)) : Int).toNat).size + (t215.extract 1 t215.size).size ≤ 9223372036854775807 then (some (t216.toList == ((t214.extract 0 ((wrap64 ((t214.size : Int) - 1)) : Int).toNat) ++ (t215.extract 1 t215.size)).toList)) else (none)) else (none)) else (none)) else (none))) else (none)) else (some false)) else (some false)))) else (none)) else (none))
end
def laws_FnSjStringJoin.f (k : Nat) (a0 : ByteArray) (a1 : ByteArray) : Option (Bool) := if (a0.size : Int) > 2147483647 then (laws_FnSjStringJoin.j0 k a0 a1 true) else (laws_FnSjStringJoin.j0 k a0 a1 (decide ((a1.size : Int) > 2147483647)))
theorem laws_FnSjStringJoin.mono_l : ∀ k, (∀ y0 y1 y2, LeO (laws_FnSjStringJoin.j0 k y0 y1 y2) (laws_FnSjStringJoin.j0 (k + 1) y0 y1 y2)) ∧ (∀ y0 y1 y2, LeO (laws_FnSjStringJoin.j1 k y0 y1 y2) (laws_FnSjStringJoin.j1 (k + 1) y0 y1 y2))
  | 0 => ⟨fun _ _ _ r h => by simp [laws_FnSjStringJoin.j0] at h, fun _ _ _ r h => by simp [laws_FnSjStringJoin.j1] at h⟩
  | k + 1 => by
    obtain ⟨ih0, ih1⟩ := laws_FnSjStringJoin.mono_l k
    refine ⟨?_, ?_⟩
    · intro y0 y1 y2
      unfold laws_FnSjStringJoin.j0
      repeat' first
      | (with_reducible exact ih0 _ _ _)
      | (with_reducible exact ih1 _ _ _)
      | (with_reducible exact impl_SjString.mono _ _)
      | (with_reducible exact spec_UTF8.mono _ _)
      | (with_reducible exact LeO.refl _)
      | (with_reducible exact LeO.none _)
      | (with_reducible refine LeO.ite ?_ ?_)
      | (with_reducible refine LeO.bind ?_ (fun _ => ?_))
      | exact ih0 _ _ _
      | exact ih1 _ _ _
      | exact impl_SjString.mono _ _
      | exact spec_UTF8.mono _ _
      | exact LeO.none _
      | refine LeO.ite ?_ ?_
      | refine LeO.bind ?_ (fun _ => ?_)
    · intro y0 y1 y2
      unfold laws_FnSjStringJoin.j1
      repeat' first
      | (with_reducible exact ih0 _ _ _)
      | (with_reducible exact ih1 _ _ _)
      | (with_reducible exact impl_SjString.mono _ _)
      | (with_reducible exact spec_UTF8.mono _ _)
      | (with_reducible exact LeO.refl _)
      | (with_reducible exact LeO.none _)
      | (with_reducible refine LeO.ite ?_ ?_)
      | (with_reducible refine LeO.bind ?_ (fun _ => ?_))
      | exact ih0 _ _ _
      | exact ih1 _ _ _
      | exact impl_SjString.mono _ _
      | exact spec_UTF8.mono _ _
      | exact LeO.none _
      | refine LeO.ite ?_ ?_
      | refine LeO.bind ?_ (fun _ => ?_)
theorem laws_FnSjStringJoin.mono : ∀ a0 a1 k, LeO (laws_FnSjStringJoin.f k a0 a1) (laws_FnSjStringJoin.f (k + 1) a0 a1) := by
  intro a0 a1 k
  obtain ⟨ih0, ih1⟩ := laws_FnSjStringJoin.mono_l k
  unfold laws_FnSjStringJoin.f
  repeat' first
      | (with_reducible exact ih0 _ _ _)
      | (with_reducible exact ih1 _ _ _)
      | (with_reducible exact impl_SjString.mono _ _)
      | (with_reducible exact spec_UTF8.mono _ _)
      | (with_reducible exact LeO.refl _)
      | (with_reducible exact LeO.none _)
      | (with_reducible refine LeO.ite ?_ ?_)
      | (with_reducible refine LeO.bind ?_ (fun _ => ?_))
      | exact ih0 _ _ _
      | exact ih1 _ _ _
      | exact impl_SjString.mono _ _
      | exact spec_UTF8.mono _ _
      | exact LeO.none _
      | refine LeO.ite ?_ ?_
      | refine LeO.bind ?_ (fun _ => ?_)
def laws_FnSjStringJoin.T7 : Bool × List (List Nat × List Nat) := (true, [([], []), ([0], [0]), ([1], [1]), ([2], [2]), ([3], [3]), ([4, 3], [3, 4]), ([5, 3], [3, 5]), ([3, 6], [3, 6]), ([7, 3], [7]), ([8], [8]), ([8], [8]), ([9, 10, 8], [8, 9, 10]), ([11, 8, 8], [8, 11]), ([8], [8]), ([8], [8]), ([14, 8], [8, 14]), ([15, 8], [8, 15]), ([13, 16, 8], [8, 13, 16]), ([8], [8]), ([18, 8], [8, 18]), ([17, 19, 8], [8, 17, 19]), ([12, 20, 8], [8, 12, 20]), ([8, 21], [8, 21]), ([22, 12, 0, 1, 2, 3, 4, 5, 6, 7, 8, 9, 10, 11, 12, 13, 14, 15, 16, 17, 18, 19, 20, 21, 22], [22])])
def laws_FnSjStringJoin.B7 : List Nat := [0, 1, 3, 7, 15, 31, 63, 127, 255, 511, 511, 2047, 4095, 511, 511, 16895, 49663, 123391, 511, 262655, 1040895, 2097151, 4194303, 8388607]
theorem laws_FnSjStringJoin.tab7 : rtab .any (opsOf Tryd.f3 7) = laws_FnSjStringJoin.T7 := by kernel_rfl
theorem laws_FnSjStringJoin.bits7 : waitsOk laws_FnSjStringJoin.T7.2 laws_FnSjStringJoin.B7 = true := by kernel_rfl
set_option maxHeartbeats 8000000 in
set_option maxRecDepth 100000 in
theorem laws_FnSjStringJoin.calls (k : Nat) (a0 : ByteArray) (a1 : ByteArray) (r : Bool) (w : World) (h : laws_FnSjStringJoin.f k a0 a1 = some r) (hG : Glob w) :
    Calls Tryd.prog 3 #[.string a0, .string a1] w fun e w' => e = .returned (.bool r) ∧ Below w.heap.size w w' := by
 have HB := Aside0.mk (Below.refl w.heap.size w)
 have HG := Aside0.mk hG
 clear hG
 have H : (if (a0.size : Int) > 2147483647 then (laws_FnSjStringJoin.j0 k a0 a1 true) else (laws_FnSjStringJoin.j0 k a0 a1 (decide ((a1.size : Int) > 2147483647)))) = some r := h
 clear h
 have HC3 := Aside0.mk H
 clear H
 go_enter Tryd.func3, Tryd.ntmps3
 go_upto_region 1 with (fail)
 go_cut [14] (fun v14 wc => ∃ (kq : Nat) (x14_2 : Bool), v14 = .bool x14_2 ∧ Aside0 (laws_FnSjStringJoin.j0 kq a0 a1 x14_2 = some r) ∧ Aside0 (kq ≤ k) ∧ Aside0 (Below w.heap.size w wc))
 case first =>
  have H := HC3.out
  clear HC3
  by_cases c4 : (a0.size : Int) > 2147483647
  ·
   rw [if_pos c4] at H
   have c4b0 : decide (2147483647 < (a0.size : Int)) = true := decide_eq_true c4
   have c4b1 : decide (2147483647 < a0.size) = true := decide_eq_true (by omega)
   clear c4
   (first | rw [c4b0] | (simp only [i64_w, i32_w]; rw [c4b0]) | skip)
   have H' := Aside0.mk H
   clear H
   go_wp2
   go_meet
   case rel => exact ⟨_, (true), (by first | rfl | (simp; done) | (simp [nil_ne_, nil_eq_]; done) | (simp [*]; done)), H', ⟨by first | omega | exact Nat.le_refl _⟩, ⟨by repeat (first | (with_reducible first | exact HB.out | apply below_alloc | apply pw_below_drewN | apply below_drew1) | exact HB.out)⟩⟩
  ·
   rw [if_neg c4] at H
   have c4b0 : decide (2147483647 < (a0.size : Int)) = false := decide_eq_false c4
   have c4b1 : decide (2147483647 < a0.size) = false := decide_eq_false (by omega)
   clear c4
   (first | rw [c4b0] | (simp only [i64_w, i32_w]; rw [c4b0]) | skip)
   have H' := Aside0.mk H
   clear H
   go_wp2
   go_meet
   case rel => exact ⟨_, (decide ((a1.size : Int) > 2147483647)), (by first | rfl | (simp; done) | (simp [nil_ne_, nil_eq_]; done) | (simp [*]; done)), H', ⟨by first | omega | exact Nat.le_refl _⟩, ⟨by repeat (first | (with_reducible first | exact HB.out | apply below_alloc | apply pw_below_drewN | apply below_drew1) | exact HB.out)⟩⟩
 case rest =>
  clear HC3
  try clear p2
  try clear c3
  try clear c4
  try clear c4b0
  try clear c4b1
  obtain ⟨kq, x14_2, rfl, HA, HJ2, HB⟩ := hcut
  cases kq with
  | zero => exact absurd HA.out (by simp [laws_FnSjStringJoin.j0])
  | succ kj2 =>
   have H := HA.out
   clear HA
   simp only [laws_FnSjStringJoin.j0] at H
   by_cases c5 : x14_2 = true
   ·
    subst c5
    have H1 : (some true) = some r := by rw [if_pos rfl] at H; exact H
    clear H
    have H := H1
    clear H1
    obtain rfl := Option.some.inj H
    go_wp2
    go_ret
    exact ⟨by first | rfl | (simp [errW_none, errW_some] <;> rfl) | (simp [*, errW_none, errW_some] <;> rfl), by repeat (first | (with_reducible first | exact HB.out | apply below_alloc | apply pw_below_drewN | apply below_drew1) | exact HB.out)⟩
   ·
    replace c5 := Bool.eq_false_iff.mpr c5
    subst c5
    have H1 : (if (wrap64 ((a0.size : Int) + (a1.size : Int))) > 4096 then (laws_FnSjStringJoin.j1 kj2 a0 a1 true) else ((spec_UTF8.f kj2 a0).bind fun t212 => (if t212 = true then ((spec_UTF8.f kj2 a1).bind fun t213 => (laws_FnSjStringJoin.j1 kj2 a0 a1 (!t213))) else (laws_FnSjStringJoin.j1 kj2 a0 a1 true)))) = some r := by rw [if_neg (show ¬ (false = true) by decide)] at H; exact H
    clear H
    have H := H1
    clear H1
    have HC6 := Aside0.mk H
    clear H
    go_upto_region 3 with (fail)
    go_cut [30] (fun v30 wc => ∃ (kq : Nat) (x30_5 : Bool), v30 = .bool x30_5 ∧ Aside0 (laws_FnSjStringJoin.j1 kq a0 a1 x30_5 = some r) ∧ Aside0 (kq ≤ kj2) ∧ Aside0 (Below w.heap.size w wc))
    case first =>
     have H := HC6.out
     clear HC6
     by_cases c7 : (wrap64 ((a0.size : Int) + (a1.size : Int))) > 4096
     ·
      rw [if_pos c7] at H
      have c7b0 : decide (4096 < (wrap64 ((a0.size : Int) + (a1.size : Int)))) = true := decide_eq_true c7
      clear c7
      (first | rw [c7b0] | (simp only [i64_w, i32_w]; rw [c7b0]) | skip)
      have H' := Aside0.mk H
      clear H
      go_wp2
      go_meet
      case rel => exact ⟨_, (true), (by first | rfl | (simp; done) | (simp [nil_ne_, nil_eq_]; done) | (simp [*]; done)), H', ⟨by have := HJ2.out; first | omega | exact Nat.le_refl _⟩, ⟨by repeat (first | (with_reducible first | exact HB.out | apply below_alloc | apply pw_below_drewN | apply below_drew1) | exact HB.out)⟩⟩
     ·
      rw [if_neg c7] at H
      have c7b0 : decide (4096 < (wrap64 ((a0.size : Int) + (a1.size : Int)))) = false := decide_eq_false c7
      clear c7
      (first | rw [c7b0] | (simp only [i64_w, i32_w]; rw [c7b0]) | skip)
      replace H := Option.bind_eq_some_iff.mp H
      obtain ⟨t212, A80, H⟩ := H
      replace H : (if t212 = true then ((spec_UTF8.f kj2 a1).bind fun t213 => (laws_FnSjStringJoin.j1 kj2 a0 a1 (!t213))) else (laws_FnSjStringJoin.j1 kj2 a0 a1 true)) = some r := H
      have A8 := Aside0.mk A80
      clear A80
      by_cases c9 : t212 = true
      ·
       subst c9
       have H1 : ((spec_UTF8.f kj2 a1).bind fun t213 => (laws_FnSjStringJoin.j1 kj2 a0 a1 (!t213))) = some r := by rw [if_pos rfl] at H; exact H
       clear H
       have H := H1
       clear H1
       replace H := Option.bind_eq_some_iff.mp H
       obtain ⟨t213, A100, H⟩ := H
       replace H : (laws_FnSjStringJoin.j1 kj2 a0 a1 (!t213)) = some r := H
       have A10 := Aside0.mk A100
       clear A100
       have H' := Aside0.mk H
       clear H
       go_wp2_with (first | (go_at_call 9; (with_reducible refine (spec_UTF8.calls kj2 a0 true _ A8.out).mono ?_); rintro e w' ⟨rfl, ⟨nd, rfl⟩⟩) | (go_at_call 9; (with_reducible refine (spec_UTF8.calls kj2 a1 t213 _ A10.out).mono ?_); rintro e w' ⟨rfl, ⟨nd, rfl⟩⟩))
       go_meet
       case rel => exact ⟨_, (!t213), (by first | rfl | (simp; done) | (simp [nil_ne_, nil_eq_]; done) | (simp [*]; done)), H', ⟨by have := HJ2.out; first | omega | exact Nat.le_refl _⟩, ⟨by repeat (first | (with_reducible first | exact HB.out | apply below_alloc | apply pw_below_drewN | apply below_drew1) | exact HB.out)⟩⟩
      ·
       replace c9 := Bool.eq_false_iff.mpr c9
       subst c9
       have H1 : (laws_FnSjStringJoin.j1 kj2 a0 a1 true) = some r := by rw [if_neg (show ¬ (false = true) by decide)] at H; exact H
       clear H
       have H := H1
       clear H1
       have H' := Aside0.mk H
       clear H
       go_wp2_with (first | (go_at_call 9; (with_reducible refine (spec_UTF8.calls kj2 a0 false _ A8.out).mono ?_); rintro e w' ⟨rfl, ⟨nd, rfl⟩⟩))
       go_meet
       case rel => exact ⟨_, (true), (by first | rfl | (simp; done) | (simp [nil_ne_, nil_eq_]; done) | (simp [*]; done)), H', ⟨by have := HJ2.out; first | omega | exact Nat.le_refl _⟩, ⟨by repeat (first | (with_reducible first | exact HB.out | apply below_alloc | apply pw_below_drewN | apply below_drew1) | exact HB.out)⟩⟩
    case rest =>
     clear HC6
     try clear p2
     try clear c3
     try clear c4
     try clear c4b0
     try clear c4b1
     try clear c5
     try clear p6
     try clear c7
     try clear c7b0
     try clear c9
     try clear p2
     obtain ⟨kq, x30_5, rfl, HA, HJ5, HB⟩ := hcut
     cases kq with
     | zero => exact absurd HA.out (by simp [laws_FnSjStringJoin.j1])
     | succ kj5 =>
      have H := HA.out
      clear HA
      simp only [laws_FnSjStringJoin.j1] at H
      by_cases c11 : x30_5 = true
      ·
       subst c11
       have H1 : (some true) = some r := by rw [if_pos rfl] at H; exact H
       clear H
       have H := H1
       clear H1
       obtain rfl := Option.some.inj H
       go_wp2
       go_ret
       exact ⟨by first | rfl | (simp [errW_none, errW_some] <;> rfl) | (simp [*, errW_none, errW_some] <;> rfl), by repeat (first | (with_reducible first | exact HB.out | apply below_alloc | apply pw_below_drewN | apply below_drew1) | exact HB.out)⟩
      ·
       replace c11 := Bool.eq_false_iff.mpr c11
       subst c11
       have H1 : (if a0.size + 1 ≤ 9223372036854775807 then (if 1 + a1.size ≤ 9223372036854775807 then ((impl_SjString.f kj5 (a0 ++ (⟨#[10]⟩ : ByteArray))).bind fun t214 => ((impl_SjString.f kj5 ((⟨#[92]⟩ : ByteArray) ++ a1)).bind fun t215 => (if (t214.size : Int) > 1 then (if (t215.size : Int) > 1 then (if (a0 ++ (⟨#[10]⟩ : ByteArray)).size + ((⟨#[92]⟩ : ByteArray) ++ a1).size ≤ 9223372036854775807 then ((impl_SjString.f kj5 ((a0 ++ (⟨#[10]⟩ : ByteArray)) ++ ((⟨#[92]⟩ : ByteArray) ++ a1))).bind fun t216 => (if 0 ≤ (wrap64 ((t214.size : Int) - 1)) then (if (wrap64 ((t214.size : Int) - 1)) ≤ (t214.size : Int) then (if 1 ≤ (t215.size : Int) then (if (t214.extract 0 ((wrap64 ((t214.size : Int) - 1)) : Int).toNat).size + (t215.extract 1 t215.size).size ≤ 9223372036854775807 then (some (t216.toList == ((t214.extract 0 ((wrap64 ((t214.size : Int) - 1)) : Int).toNat) ++ (t215.extract 1 t215.size)).toList)) else (none)) else (none)) else (none)) else (none))) else (none)) else (some false)) else (some false)))) else (none)) else (none)) = some r := by rw [if_neg (show ¬ (false = true) by decide)] at H; exact H
       clear H
       have H := H1
       clear H1
       by_cases c12 : a0.size + 1 ≤ 9223372036854775807
       ·
        rw [if_pos c12] at H
        have c12b0 := eq_true c12
        have c12b1 : decide (a0.size + 1 ≤ 9223372036854775807) = true := decide_eq_true c12
        try have c12b2 : (9223372036854775807 < a0.size + 1) = False := eq_false (Nat.not_lt.2 c12)
        by_cases c13 : 1 + a1.size ≤ 9223372036854775807
        ·
         rw [if_pos c13] at H
         have c13b0 := eq_true c13
         have c13b1 : decide (1 + a1.size ≤ 9223372036854775807) = true := decide_eq_true c13
         try have c13b2 : (9223372036854775807 < 1 + a1.size) = False := eq_false (Nat.not_lt.2 c13)
         replace H := Option.bind_eq_some_iff.mp H
         obtain ⟨t214, A140, H⟩ := H
         replace H : ((impl_SjString.f kj5 ((⟨#[92]⟩ : ByteArray) ++ a1)).bind fun t215 => (if (t214.size : Int) > 1 then (if (t215.size : Int) > 1 then (if (a0 ++ (⟨#[10]⟩ : ByteArray)).size + ((⟨#[92]⟩ : ByteArray) ++ a1).size ≤ 9223372036854775807 then ((impl_SjString.f kj5 ((a0 ++ (⟨#[10]⟩ : ByteArray)) ++ ((⟨#[92]⟩ : ByteArray) ++ a1))).bind fun t216 => (if 0 ≤ (wrap64 ((t214.size : Int) - 1)) then (if (wrap64 ((t214.size : Int) - 1)) ≤ (t214.size : Int) then (if 1 ≤ (t215.size : Int) then (if (t214.extract 0 ((wrap64 ((t214.size : Int) - 1)) : Int).toNat).size + (t215.extract 1 t215.size).size ≤ 9223372036854775807 then (some (t216.toList == ((t214.extract 0 ((wrap64 ((t214.size : Int) - 1)) : Int).toNat) ++ (t215.extract 1 t215.size)).toList)) else (none)) else (none)) else (none)) else (none))) else (none)) else (some false)) else (some false))) = some r := H
         have A14 := Aside0.mk A140
         clear A140
         replace H := Option.bind_eq_some_iff.mp H
         obtain ⟨t215, A150, H⟩ := H
         replace H : (if (t214.size : Int) > 1 then (if (t215.size : Int) > 1 then (if (a0 ++ (⟨#[10]⟩ : ByteArray)).size + ((⟨#[92]⟩ : ByteArray) ++ a1).size ≤ 9223372036854775807 then ((impl_SjString.f kj5 ((a0 ++ (⟨#[10]⟩ : ByteArray)) ++ ((⟨#[92]⟩ : ByteArray) ++ a1))).bind fun t216 => (if 0 ≤ (wrap64 ((t214.size : Int) - 1)) then (if (wrap64 ((t214.size : Int) - 1)) ≤ (t214.size : Int) then (if 1 ≤ (t215.size : Int) then (if (t214.extract 0 ((wrap64 ((t214.size : Int) - 1)) : Int).toNat).size + (t215.extract 1 t215.size).size ≤ 9223372036854775807 then (some (t216.toList == ((t214.extract 0 ((wrap64 ((t214.size : Int) - 1)) : Int).toNat) ++ (t215.extract 1 t215.size)).toList)) else (none)) else (none)) else (none)) else (none))) else (none)) else (some false)) else (some false)) = some r := H
         have A15 := Aside0.mk A150
         clear A150
         by_cases c16 : (t214.size : Int) > 1
         ·
          rw [if_pos c16] at H
          have c16b0 : decide (1 < (t214.size : Int)) = true := decide_eq_true c16
          have c16b1 : decide (1 < t214.size) = true := decide_eq_true (by omega)
          clear c16
          by_cases c17 : (t215.size : Int) > 1
          ·
           rw [if_pos c17] at H
           have c17b0 : decide (1 < (t215.size : Int)) = true := decide_eq_true c17
           have c17b1 : decide (1 < t215.size) = true := decide_eq_true (by omega)
           clear c17
           by_cases c18 : (a0 ++ (⟨#[10]⟩ : ByteArray)).size + ((⟨#[92]⟩ : ByteArray) ++ a1).size ≤ 9223372036854775807
           ·
            rw [if_pos c18] at H
            have c18b0 := eq_true c18
            have c18b1 : decide ((a0 ++ (⟨#[10]⟩ : ByteArray)).size + ((⟨#[92]⟩ : ByteArray) ++ a1).size ≤ 9223372036854775807) = true := decide_eq_true c18
            try have c18b2 : (9223372036854775807 < (a0 ++ (⟨#[10]⟩ : ByteArray)).size + ((⟨#[92]⟩ : ByteArray) ++ a1).size) = False := eq_false (Nat.not_lt.2 c18)
            try (have c18b3 := c18b2; simp only [ByteArray.size_append, sz_mk, List.size_toArray, List.length_cons, List.length_nil, Nat.reduceAdd, Nat.zero_add] at c18b3)
            replace H := Option.bind_eq_some_iff.mp H
            obtain ⟨t216, A190, H⟩ := H
            replace H : (if 0 ≤ (wrap64 ((t214.size : Int) - 1)) then (if (wrap64 ((t214.size : Int) - 1)) ≤ (t214.size : Int) then (if 1 ≤ (t215.size : Int) then (if (t214.extract 0 ((wrap64 ((t214.size : Int) - 1)) : Int).toNat).size + (t215.extract 1 t215.size).size ≤ 9223372036854775807 then (some (t216.toList == ((t214.extract 0 ((wrap64 ((t214.size : Int) - 1)) : Int).toNat) ++ (t215.extract 1 t215.size)).toList)) else (none)) else (none)) else (none)) else (none)) = some r := H
            have A19 := Aside0.mk A190
            clear A190
            obtain ⟨ji20, hji20⟩ : ∃ j_ : Int, (wrap64 ((t214.size : Int) - 1)) = j_ := ⟨_, rfl⟩
            replace H : (if 0 ≤ (ji20) then (if (ji20) ≤ (t214.size : Int) then (if 1 ≤ (t215.size : Int) then (if (t214.extract 0 ((ji20) : Int).toNat).size + (t215.extract 1 t215.size).size ≤ 9223372036854775807 then (some (t216.toList == ((t214.extract 0 ((ji20) : Int).toNat) ++ (t215.extract 1 t215.size)).toList)) else (none)) else (none)) else (none)) else (none)) = some r := by first | (rw [hji20] at H; exact H) | (simp only [hji20] at H ⊢; exact H)
            (try rw [hji20] at A14)
            (try rw [hji20] at A15)
            (try rw [hji20] at A19)
            have hji20w : (IntKind.i64.wrap ((t214.size : Int) - 1)) = ji20 := (i64_w _).trans hji20
            by_cases c21 : 0 ≤ (ji20)
            ·
             rw [if_pos c21] at H
             have c21b0 := eq_true c21
             have c21b1 : decide (0 ≤ (ji20)) = true := decide_eq_true c21
             clear c21
             by_cases c22 : (ji20) ≤ (t214.size : Int)
             ·
              rw [if_pos c22] at H
              have c22b0 := eq_true c22
              have c22b1 : decide ((ji20) ≤ (t214.size : Int)) = true := decide_eq_true c22
              clear c22
              obtain ⟨js23, hjs23⟩ : ∃ j_ : ByteArray, (t214.extract 0 ((ji20) : Int).toNat) = j_ := ⟨_, rfl⟩
              skip
              replace H : (if 1 ≤ (t215.size : Int) then (if js23.size + (t215.extract 1 t215.size).size ≤ 9223372036854775807 then (some (t216.toList == (js23 ++ (t215.extract 1 t215.size)).toList)) else (none)) else (none)) = some r := by first | (rw [hjs23] at H; exact H) | (simp only [hjs23] at H ⊢; exact H)
              by_cases c24 : 1 ≤ (t215.size : Int)
              ·
               rw [if_pos c24] at H
               have c24b0 := eq_true c24
               have c24b1 : decide (1 ≤ (t215.size : Int)) = true := decide_eq_true c24
               clear c24
               obtain ⟨js25, hjs25⟩ : ∃ j_ : ByteArray, (t215.extract 1 t215.size) = j_ := ⟨_, rfl⟩
               skip
               replace H : (if js23.size + js25.size ≤ 9223372036854775807 then (some (t216.toList == (js23 ++ js25).toList)) else (none)) = some r := by first | (rw [hjs25] at H; exact H) | (simp only [hjs25] at H ⊢; exact H)
               by_cases c26 : js23.size + js25.size ≤ 9223372036854775807
               ·
                rw [if_pos c26] at H
                have c26b0 := eq_true c26
                have c26b1 : decide (js23.size + js25.size ≤ 9223372036854775807) = true := decide_eq_true c26
                try have c26b2 : (9223372036854775807 < js23.size + js25.size) = False := eq_false (Nat.not_lt.2 c26)
                obtain rfl := Option.some.inj H
                try go_wp2_with (first | ((with_reducible refine gate_callee (f := 10) rfl ?_); refine goesL_ (some 36) rfl rfl Tryd.func10 (by kernel_rfl) rfl #[.string (a0 ++ (⟨#[10]⟩ : ByteArray))] rfl (by (try simp only [List.map_toArray, List.map_cons, List.map_nil]); first | done | rfl | (simp only [List.length_drop, List.length_take]; rfl)) ?_; (with_reducible refine (impl_SjString.calls kj5 (a0 ++ (⟨#[10]⟩ : ByteArray)) t214 _ A14.out (HG.out.below (by repeat (first | (with_reducible first | exact HB.out | apply below_alloc | apply pw_below_drewN | apply below_drew1) | exact HB.out)))).mono ?_); rintro e w27 ⟨rfl, hb⟩; refine ⟨_, rfl, ?_⟩; have n0_ := Aside0.mk (below_step (by repeat (first | (with_reducible first | exact HB.out | apply below_alloc | apply pw_below_drewN | apply below_drew1) | exact HB.out)) hb); clear HB; have HB := n0_; clear n0_; (try clear hb); (try clear hb2); (try clear hk); (try clear hi)) | ((with_reducible refine gate_callee (f := 10) rfl ?_); refine goesL_ (some 38) rfl rfl Tryd.func10 (by kernel_rfl) rfl #[.string ((⟨#[92]⟩ : ByteArray) ++ a1)] rfl (by (try simp only [List.map_toArray, List.map_cons, List.map_nil]); first | done | rfl | (simp only [List.length_drop, List.length_take]; rfl)) ?_; (with_reducible refine (impl_SjString.calls kj5 ((⟨#[92]⟩ : ByteArray) ++ a1) t215 _ A15.out (HG.out.below (by repeat (first | (with_reducible first | exact HB.out | apply below_alloc | apply pw_below_drewN | apply below_drew1) | exact HB.out)))).mono ?_); rintro e w28 ⟨rfl, hb⟩; refine ⟨_, rfl, ?_⟩; have n0_ := Aside0.mk (below_step (by repeat (first | (with_reducible first | exact HB.out | apply below_alloc | apply pw_below_drewN | apply below_drew1) | exact HB.out)) hb); clear HB; have HB := n0_; clear n0_; (try clear hb); (try clear hb2); (try clear hk); (try clear hi)))
                have n0_ := Aside0.mk (below_drew1 HB.out)
                clear HB
                have HB := n0_
                clear n0_
                refine start_ (n := 24) (S := fun w' => True) (ds := []) #[false, false, false, false, false, false, false, false, false, false, false, false, false, false, false, false, false, false, false, false, false, false, false, false] (by kernel_rfl) rfl rfl trivial (fun hHeld => ?_); refine with_tabW laws_FnSjStringJoin.tab7 laws_FnSjStringJoin.bits7 (fun HT_ HW_ => ?_)
                generalize w28.drew = w29 at HB hHeld ⊢
                refine pure_ (i := 0) (N := some 39) (v := ?_) (a' := ?_) #[true, false, false, false, false, false, false, false, false, false, false, false, false, false, false, false, false, false, false, false, false, false, false, false] rfl rfl (any_of HT_.out (by kernel_rfl)) (fun _ _ _ h => h) (Or.inl ⟨by rfl, ?_⟩) ?_ ?_
                rotate_left
                ·
                 intro w'
                 go_simp
                 with_reducible rfl
                rotate_left
                ·
                 simp only [Act.put, List.setIfInBounds_toArray, List.set_cons_zero, List.set_cons_succ, i64_w, i32_w]
                 rfl
                refine pure_ (i := 1) (N := some 40) (v := ?_) (a' := ?_) #[true, true, false, false, false, false, false, false, false, false, false, false, false, false, false, false, false, false, false, false, false, false, false, false] rfl rfl (any_of HT_.out (by kernel_rfl)) (fun _ _ _ h => h) (Or.inl ⟨by rfl, ?_⟩) ?_ ?_
                rotate_left
                ·
                 intro w'
                 go_simp
                 with_reducible rfl
                rotate_left
                ·
                 simp only [Act.put, List.setIfInBounds_toArray, List.set_cons_zero, List.set_cons_succ, i64_w, i32_w]
                 rfl
                refine pure_ (i := 2) (N := some 41) (v := ?_) (a' := ?_) #[true, true, true, false, false, false, false, false, false, false, false, false, false, false, false, false, false, false, false, false, false, false, false, false] rfl rfl (any_of HT_.out (by kernel_rfl)) (fun _ _ _ h => h) (Or.inl ⟨by rfl, ?_⟩) ?_ ?_
                rotate_left
                ·
                 intro w'
                 go_simp
                 with_reducible rfl
                rotate_left
                ·
                 simp only [Act.put, List.setIfInBounds_toArray, List.set_cons_zero, List.set_cons_succ, i64_w, i32_w]
                 rfl
                refine pure_ (i := 3) (N := some 42) (v := ?_) (a' := ?_) #[true, true, true, true, false, false, false, false, false, false, false, false, false, false, false, false, false, false, false, false, false, false, false, false] rfl rfl (any_of HT_.out (by kernel_rfl)) (fun _ _ _ h => h) (Or.inl ⟨by rfl, ?_⟩) ?_ ?_
                rotate_left
                ·
                 intro w'
                 go_simp
                 with_reducible rfl
                rotate_left
                ·
                 simp only [Act.put, List.setIfInBounds_toArray, List.set_cons_zero, List.set_cons_succ, i64_w, i32_w]
                 rfl
                refine pure_ (i := 4) (N := some 43) (v := ?_) (a' := ?_) #[true, true, true, true, true, false, false, false, false, false, false, false, false, false, false, false, false, false, false, false, false, false, false, false] rfl rfl (any_of HT_.out (by kernel_rfl)) (fun _ _ _ h => h) (Or.inl ⟨by rfl, ?_⟩) ?_ ?_
                rotate_left
                ·
                 intro w'
                 go_simp
                 with_reducible rfl
                rotate_left
                ·
                 simp only [Act.put, List.setIfInBounds_toArray, List.set_cons_zero, List.set_cons_succ, i64_w, i32_w]
                 rfl
                refine pure_ (i := 5) (N := some 44) (v := ?_) (a' := ?_) #[true, true, true, true, true, true, false, false, false, false, false, false, false, false, false, false, false, false, false, false, false, false, false, false] rfl rfl (any_of HT_.out (by kernel_rfl)) (fun _ _ _ h => h) (Or.inl ⟨by rfl, ?_⟩) ?_ ?_
                rotate_left
                ·
                 intro w'
                 go_simp
                 with_reducible rfl
                rotate_left
                ·
                 simp only [Act.put, List.setIfInBounds_toArray, List.set_cons_zero, List.set_cons_succ, i64_w, i32_w]
                 rfl
                refine pure_ (i := 6) (N := some 45) (v := ?_) (a' := ?_) #[true, true, true, true, true, true, true, false, false, false, false, false, false, false, false, false, false, false, false, false, false, false, false, false] rfl rfl (any_of HT_.out (by kernel_rfl)) (fun _ _ _ h => h) (Or.inl ⟨by rfl, ?_⟩) ?_ ?_
                rotate_left
                ·
                 intro w'
                 go_simp
                 with_reducible rfl
                rotate_left
                ·
                 simp only [Act.put, List.setIfInBounds_toArray, List.set_cons_zero, List.set_cons_succ, i64_w, i32_w]
                 rfl
                refine pure_ (i := 7) (N := some 46) (v := ?_) (a' := ?_) #[true, true, true, true, true, true, true, true, false, false, false, false, false, false, false, false, false, false, false, false, false, false, false, false] rfl rfl (any_of HT_.out (by kernel_rfl)) (fun _ _ _ h => h) (Or.inl ⟨by rfl, ?_⟩) ?_ ?_
                rotate_left
                ·
                 intro w'
                 go_simp
                 with_reducible rfl
                rotate_left
                ·
                 simp only [Act.put, List.setIfInBounds_toArray, List.set_cons_zero, List.set_cons_succ, i64_w, i32_w]
                 rfl
                refine pure_ (i := 8) (N := some 47) (v := ?_) (a' := ?_) #[true, true, true, true, true, true, true, true, true, false, false, false, false, false, false, false, false, false, false, false, false, false, false, false] rfl rfl (any_of HT_.out (by kernel_rfl)) (fun _ _ _ h => h) (Or.inl ⟨by rfl, ?_⟩) ?_ ?_
                rotate_left
                ·
                 intro w'
                 go_simp
                 with_reducible rfl
                rotate_left
                ·
                 simp only [Act.put, List.setIfInBounds_toArray, List.set_cons_zero, List.set_cons_succ, i64_w, i32_w]
                 rfl
                refine pure_ (i := 9) (N := some 48) (v := ?_) (a' := ?_) #[true, true, true, true, true, true, true, true, true, true, false, false, false, false, false, false, false, false, false, false, false, false, false, false] rfl rfl (any_of HT_.out (by kernel_rfl)) (fun _ _ _ h => h) (Or.inl ⟨by rfl, ?_⟩) ?_ ?_
                rotate_left
                ·
                 intro w'
                 go_simp
                 with_reducible rfl
                rotate_left
                ·
                 simp only [Act.put, List.setIfInBounds_toArray, List.set_cons_zero, List.set_cons_succ, i64_w, i32_w]
                 rfl
                refine pure_ (i := 10) (N := some 49) (v := ?_) (a' := ?_) #[true, true, true, true, true, true, true, true, true, true, true, false, false, false, false, false, false, false, false, false, false, false, false, false] rfl rfl (any_of HT_.out (by kernel_rfl)) (fun _ _ _ h => h) (Or.inl ⟨by rfl, ?_⟩) ?_ ?_
                rotate_left
                ·
                 intro w'
                 go_simp
                 with_reducible rfl
                rotate_left
                ·
                 simp only [Act.put, List.setIfInBounds_toArray, List.set_cons_zero, List.set_cons_succ, i64_w, i32_w]
                 rfl
                refine pure_ (i := 11) (N := some 50) (v := ?_) (a' := ?_) #[true, true, true, true, true, true, true, true, true, true, true, true, false, false, false, false, false, false, false, false, false, false, false, false] rfl rfl (any_of HT_.out (by kernel_rfl)) (fun _ _ _ h => h) (Or.inl ⟨by rfl, ?_⟩) ?_ ?_
                rotate_left
                ·
                 intro w'
                 go_simp
                 with_reducible rfl
                rotate_left
                ·
                 simp only [Act.put, List.setIfInBounds_toArray, List.set_cons_zero, List.set_cons_succ, i64_w, i32_w]
                 rfl
                refine pure_ (i := 13) (N := some 52) (v := ?_) (a' := ?_) #[true, true, true, true, true, true, true, true, true, true, true, true, false, true, false, false, false, false, false, false, false, false, false, false] rfl rfl (any_of HT_.out (by kernel_rfl)) (fun _ _ _ h => h) (Or.inl ⟨by rfl, ?_⟩) ?_ ?_
                rotate_left
                ·
                 intro w'
                 go_simp
                 with_reducible rfl
                rotate_left
                ·
                 simp only [Act.put, List.setIfInBounds_toArray, List.set_cons_zero, List.set_cons_succ, i64_w, i32_w]
                 rfl
                refine pure_ (i := 14) (N := some 53) (v := ?_) (a' := ?_) #[true, true, true, true, true, true, true, true, true, true, true, true, false, true, true, false, false, false, false, false, false, false, false, false] rfl rfl (any_of HT_.out (by kernel_rfl)) (fun _ _ _ h => h) (Or.inl ⟨by rfl, ?_⟩) ?_ ?_
                rotate_left
                ·
                 intro w'
                 go_simp
                 with_reducible rfl
                rotate_left
                ·
                 simp only [Act.put, List.setIfInBounds_toArray, List.set_cons_zero, List.set_cons_succ, i64_w, i32_w]
                 rfl
                refine pure_ (i := 15) (N := some 54) (v := ?_) (a' := ?_) #[true, true, true, true, true, true, true, true, true, true, true, true, false, true, true, true, false, false, false, false, false, false, false, false] rfl rfl (any_of HT_.out (by kernel_rfl)) (fun _ _ _ h => h) (Or.inl ⟨by rfl, ?_⟩) ?_ ?_
                rotate_left
                ·
                 intro w'
                 go_simp
                 with_reducible rfl
                rotate_left
                ·
                 simp only [Act.put, List.setIfInBounds_toArray, List.set_cons_zero, List.set_cons_succ, i64_w, i32_w]
                 rfl
                refine pure_ (i := 16) (N := some 55) (v := ?_) (a' := ?_) #[true, true, true, true, true, true, true, true, true, true, true, true, false, true, true, true, true, false, false, false, false, false, false, false] rfl rfl (any_of HT_.out (by kernel_rfl)) (fun _ _ _ h => h) (Or.inl ⟨by rfl, ?_⟩) ?_ ?_
                rotate_left
                ·
                 intro w'
                 go_simp
                 with_reducible rfl
                rotate_left
                ·
                 simp only [Act.put, List.setIfInBounds_toArray, List.set_cons_zero, List.set_cons_succ, i64_w, i32_w]
                 rfl
                refine pure_ (i := 17) (N := some 56) (v := ?_) (a' := ?_) #[true, true, true, true, true, true, true, true, true, true, true, true, false, true, true, true, true, true, false, false, false, false, false, false] rfl rfl (any_of HT_.out (by kernel_rfl)) (fun _ _ _ h => h) (Or.inl ⟨by rfl, ?_⟩) ?_ ?_
                rotate_left
                ·
                 intro w'
                 go_simp
                 with_reducible rfl
                rotate_left
                ·
                 simp only [Act.put, List.setIfInBounds_toArray, List.set_cons_zero, List.set_cons_succ, i64_w, i32_w]
                 rfl
                refine pure_ (i := 18) (N := some 57) (v := ?_) (a' := ?_) #[true, true, true, true, true, true, true, true, true, true, true, true, false, true, true, true, true, true, true, false, false, false, false, false] rfl rfl (any_of HT_.out (by kernel_rfl)) (fun _ _ _ h => h) (Or.inl ⟨by rfl, ?_⟩) ?_ ?_
                rotate_left
                ·
                 intro w'
                 go_simp
                 with_reducible rfl
                rotate_left
                ·
                 simp only [Act.put, List.setIfInBounds_toArray, List.set_cons_zero, List.set_cons_succ, i64_w, i32_w]
                 rfl
                refine pure_ (i := 19) (N := some 58) (v := ?_) (a' := ?_) #[true, true, true, true, true, true, true, true, true, true, true, true, false, true, true, true, true, true, true, true, false, false, false, false] rfl rfl (any_of HT_.out (by kernel_rfl)) (fun _ _ _ h => h) (Or.inl ⟨by rfl, ?_⟩) ?_ ?_
                rotate_left
                ·
                 intro w'
                 go_simp
                 with_reducible rfl
                rotate_left
                ·
                 simp only [Act.put, List.setIfInBounds_toArray, List.set_cons_zero, List.set_cons_succ, i64_w, i32_w]
                 rfl
                refine pure_ (i := 20) (N := some 59) (v := ?_) (a' := ?_) #[true, true, true, true, true, true, true, true, true, true, true, true, false, true, true, true, true, true, true, true, true, false, false, false] rfl rfl (any_of HT_.out (by kernel_rfl)) (fun _ _ _ h => h) (Or.inl ⟨by rfl, ?_⟩) ?_ ?_
                rotate_left
                ·
                 intro w'
                 go_simp
                 with_reducible rfl
                rotate_left
                ·
                 simp only [Act.put, List.setIfInBounds_toArray, List.set_cons_zero, List.set_cons_succ, i64_w, i32_w]
                 rfl
                refine one_ (i := 12) (N := some 51) #[true, true, true, true, true, true, true, true, true, true, true, true, true, true, true, true, true, true, true, true, true, false, false, false] rfl rfl (one_of HT_.out (by kernel_rfl)) (by decide) (fun K hK => ?_)
                refine goes_ Tryd.func10 (by kernel_rfl) rfl #[.string ((a0 ++ (⟨#[10]⟩ : ByteArray)) ++ ((⟨#[92]⟩ : ByteArray) ++ a1))] (by rfl) rfl rfl (by (try simp only [List.map_toArray, List.map_cons, List.map_nil]); first | done | rfl | (simp only [List.length_drop, List.length_take]; rfl)) ?_
                with_reducible refine (impl_SjString.calls kj5 ((a0 ++ (⟨#[10]⟩ : ByteArray)) ++ ((⟨#[92]⟩ : ByteArray) ++ a1)) t216 _ A19.out (HG.out.below (by repeat (first | (with_reducible first | exact HB.out | apply below_alloc | apply pw_below_drewN | apply below_drew1) | exact HB.out)))).mono ?_
                rintro e w30 ⟨rfl, hb⟩
                refine ⟨_, rfl, ?_⟩
                have n0_ := Aside0.mk (below_step (by repeat (first | (with_reducible first | exact HB.out | apply below_alloc | apply pw_below_drewN | apply below_drew1) | exact HB.out)) hb)
                clear HB
                have HB := n0_
                clear n0_
                (try clear hb)
                (try clear hb2)
                (try clear hk)
                (try clear hi)
                refine hK.out _ _ trivial (fun hHeld => ?_)
                clear hK K
                refine norm_ (a' := ?_) ?_ ?_
                rotate_left
                ·
                 show Act.put _ (some 51) _ = _
                 simp only [Act.put, List.setIfInBounds_toArray, List.set_cons_zero, List.set_cons_succ, i64_w, i32_w]
                 rfl
                refine pure_ (i := 21) (N := some 60) (v := ?_) (a' := ?_) #[true, true, true, true, true, true, true, true, true, true, true, true, true, true, true, true, true, true, true, true, true, true, false, false] rfl rfl (any_of HT_.out (by kernel_rfl)) (fun _ _ _ h => h) (Or.inl ⟨by rfl, ?_⟩) ?_ ?_
                rotate_left
                ·
                 intro w'
                 go_simp
                 with_reducible rfl
                rotate_left
                ·
                 simp only [Act.put, List.setIfInBounds_toArray, List.set_cons_zero, List.set_cons_succ, i64_w, i32_w]
                 rfl
                refine pure_ (i := 22) (N := some 61) (v := ?_) (a' := ?_) #[true, true, true, true, true, true, true, true, true, true, true, true, true, true, true, true, true, true, true, true, true, true, true, false] rfl rfl (any_of HT_.out (by kernel_rfl)) (fun _ _ _ h => h) (Or.inl ⟨by rfl, ?_⟩) ?_ ?_
                rotate_left
                ·
                 intro w'
                 go_simp
                 with_reducible rfl
                rotate_left
                ·
                 simp only [Act.put, List.setIfInBounds_toArray, List.set_cons_zero, List.set_cons_succ, i64_w, i32_w]
                 rfl
                refine pure_ (i := 23) (N := some 4) (v := ?_) (a' := ?_) #[true, true, true, true, true, true, true, true, true, true, true, true, true, true, true, true, true, true, true, true, true, true, true, true] rfl rfl (any_of HT_.out (by kernel_rfl)) (fun _ _ _ h => h) (Or.inl ⟨by rfl, ?_⟩) ?_ ?_
                rotate_left
                ·
                 intro w'
                 go_simp
                 with_reducible rfl
                rotate_left
                ·
                 simp only [Act.put, List.setIfInBounds_toArray, List.set_cons_zero, List.set_cons_succ, i64_w, i32_w]
                 rfl
                refine done_ (done_of HT_.out (by kernel_rfl)) ?_
                try go_wp2
                go_ret
                exact ⟨by first | rfl | (simp [errW_none, errW_some] <;> rfl) | (simp only [← hji20, ← hjs23, ← hjs25]; first | rfl | (simp [errW_none, errW_some] <;> rfl)) | (simp [*, errW_none, errW_some] <;> rfl), by repeat (first | (with_reducible first | exact HB.out | apply below_alloc | apply pw_below_drewN | apply below_drew1) | exact HB.out)⟩
               ·
                rw [if_neg c26] at H
                exact absurd H (by simp)
              ·
               rw [if_neg c24] at H
               exact absurd H (by simp)
             ·
              rw [if_neg c22] at H
              exact absurd H (by simp)
            ·
             rw [if_neg c21] at H
             exact absurd H (by simp)
           ·
            rw [if_neg c18] at H
            exact absurd H (by simp)
          ·
           rw [if_neg c17] at H
           have c17b0 : decide (1 < (t215.size : Int)) = false := decide_eq_false c17
           have c17b1 : decide (1 < t215.size) = false := decide_eq_false (by omega)
           clear c17
           obtain rfl := Option.some.inj H
           try go_wp2_with (first | ((with_reducible refine gate_callee (f := 10) rfl ?_); refine goesL_ (some 36) rfl rfl Tryd.func10 (by kernel_rfl) rfl #[.string (a0 ++ (⟨#[10]⟩ : ByteArray))] rfl (by (try simp only [List.map_toArray, List.map_cons, List.map_nil]); first | done | rfl | (simp only [List.length_drop, List.length_take]; rfl)) ?_; (with_reducible refine (impl_SjString.calls kj5 (a0 ++ (⟨#[10]⟩ : ByteArray)) t214 _ A14.out (HG.out.below (by repeat (first | (with_reducible first | exact HB.out | apply below_alloc | apply pw_below_drewN | apply below_drew1) | exact HB.out)))).mono ?_); rintro e w31 ⟨rfl, hb⟩; refine ⟨_, rfl, ?_⟩; have n0_ := Aside0.mk (below_step (by repeat (first | (with_reducible first | exact HB.out | apply below_alloc | apply pw_below_drewN | apply below_drew1) | exact HB.out)) hb); clear HB; have HB := n0_; clear n0_; (try clear hb); (try clear hb2); (try clear hk); (try clear hi)) | ((with_reducible refine gate_callee (f := 10) rfl ?_); refine goesL_ (some 38) rfl rfl Tryd.func10 (by kernel_rfl) rfl #[.string ((⟨#[92]⟩ : ByteArray) ++ a1)] rfl (by (try simp only [List.map_toArray, List.map_cons, List.map_nil]); first | done | rfl | (simp only [List.length_drop, List.length_take]; rfl)) ?_; (with_reducible refine (impl_SjString.calls kj5 ((⟨#[92]⟩ : ByteArray) ++ a1) t215 _ A15.out (HG.out.below (by repeat (first | (with_reducible first | exact HB.out | apply below_alloc | apply pw_below_drewN | apply below_drew1) | exact HB.out)))).mono ?_); rintro e w32 ⟨rfl, hb⟩; refine ⟨_, rfl, ?_⟩; have n0_ := Aside0.mk (below_step (by repeat (first | (with_reducible first | exact HB.out | apply below_alloc | apply pw_below_drewN | apply below_drew1) | exact HB.out)) hb); clear HB; have HB := n0_; clear n0_; (try clear hb); (try clear hb2); (try clear hk); (try clear hi)))
           have n0_ := Aside0.mk (below_drew1 HB.out)
           clear HB
           have HB := n0_
           clear n0_
           refine start_ (n := 24) (S := fun w' => True) (ds := []) #[false, false, false, false, false, false, false, false, false, false, false, false, false, false, false, false, false, false, false, false, false, false, false, false] (by kernel_rfl) rfl rfl trivial (fun hHeld => ?_); refine with_tabW laws_FnSjStringJoin.tab7 laws_FnSjStringJoin.bits7 (fun HT_ HW_ => ?_)
           generalize w32.drew = w33 at HB hHeld ⊢
           refine pure_ (i := 0) (N := some 39) (v := ?_) (a' := ?_) #[true, false, false, false, false, false, false, false, false, false, false, false, false, false, false, false, false, false, false, false, false, false, false, false] rfl rfl (any_of HT_.out (by kernel_rfl)) (fun _ _ _ h => h) (Or.inl ⟨by rfl, ?_⟩) ?_ ?_
           rotate_left
           ·
            intro w'
            go_simp
            with_reducible rfl
           rotate_left
           ·
            simp only [Act.put, List.setIfInBounds_toArray, List.set_cons_zero, List.set_cons_succ, i64_w, i32_w]
            rfl
           refine pure_ (i := 1) (N := some 40) (v := ?_) (a' := ?_) #[true, true, false, false, false, false, false, false, false, false, false, false, false, false, false, false, false, false, false, false, false, false, false, false] rfl rfl (any_of HT_.out (by kernel_rfl)) (fun _ _ _ h => h) (Or.inl ⟨by rfl, ?_⟩) ?_ ?_
           rotate_left
           ·
            intro w'
            go_simp
            with_reducible rfl
           rotate_left
           ·
            simp only [Act.put, List.setIfInBounds_toArray, List.set_cons_zero, List.set_cons_succ, i64_w, i32_w]
            rfl
           refine pure_ (i := 2) (N := some 41) (v := ?_) (a' := ?_) #[true, true, true, false, false, false, false, false, false, false, false, false, false, false, false, false, false, false, false, false, false, false, false, false] rfl rfl (any_of HT_.out (by kernel_rfl)) (fun _ _ _ h => h) (Or.inl ⟨by rfl, ?_⟩) ?_ ?_
           rotate_left
           ·
            intro w'
            go_simp
            with_reducible rfl
           rotate_left
           ·
            simp only [Act.put, List.setIfInBounds_toArray, List.set_cons_zero, List.set_cons_succ, i64_w, i32_w]
            rfl
           refine pure_ (i := 3) (N := some 42) (v := ?_) (a' := ?_) #[true, true, true, true, false, false, false, false, false, false, false, false, false, false, false, false, false, false, false, false, false, false, false, false] rfl rfl (any_of HT_.out (by kernel_rfl)) (fun _ _ _ h => h) (Or.inl ⟨by rfl, ?_⟩) ?_ ?_
           rotate_left
           ·
            intro w'
            go_simp
            with_reducible rfl
           rotate_left
           ·
            simp only [Act.put, List.setIfInBounds_toArray, List.set_cons_zero, List.set_cons_succ, i64_w, i32_w]
            rfl
           refine pure_ (i := 4) (N := some 43) (v := ?_) (a' := ?_) #[true, true, true, true, true, false, false, false, false, false, false, false, false, false, false, false, false, false, false, false, false, false, false, false] rfl rfl (any_of HT_.out (by kernel_rfl)) (fun _ _ _ h => h) (Or.inl ⟨by rfl, ?_⟩) ?_ ?_
           rotate_left
           ·
            intro w'
            go_simp
            with_reducible rfl
           rotate_left
           ·
            simp only [Act.put, List.setIfInBounds_toArray, List.set_cons_zero, List.set_cons_succ, i64_w, i32_w]
            rfl
           refine pure_ (i := 5) (N := some 44) (v := ?_) (a' := ?_) #[true, true, true, true, true, true, false, false, false, false, false, false, false, false, false, false, false, false, false, false, false, false, false, false] rfl rfl (any_of HT_.out (by kernel_rfl)) (fun _ _ _ h => h) (Or.inl ⟨by rfl, ?_⟩) ?_ ?_
           rotate_left
           ·
            intro w'
            go_simp
            with_reducible rfl
           rotate_left
           ·
            simp only [Act.put, List.setIfInBounds_toArray, List.set_cons_zero, List.set_cons_succ, i64_w, i32_w]
            rfl
           refine pure_ (i := 6) (N := some 45) (v := ?_) (a' := ?_) #[true, true, true, true, true, true, true, false, false, false, false, false, false, false, false, false, false, false, false, false, false, false, false, false] rfl rfl (any_of HT_.out (by kernel_rfl)) (fun _ _ _ h => h) (Or.inl ⟨by rfl, ?_⟩) ?_ ?_
           rotate_left
           ·
            intro w'
            go_simp
            with_reducible rfl
           rotate_left
           ·
            simp only [Act.put, List.setIfInBounds_toArray, List.set_cons_zero, List.set_cons_succ, i64_w, i32_w]
            rfl
           refine pure_ (i := 7) (N := some 46) (v := ?_) (a' := ?_) #[true, true, true, true, true, true, true, true, false, false, false, false, false, false, false, false, false, false, false, false, false, false, false, false] rfl rfl (any_of HT_.out (by kernel_rfl)) (fun _ _ _ h => h) (Or.inl ⟨by rfl, ?_⟩) ?_ ?_
           rotate_left
           ·
            intro w'
            go_simp
            with_reducible rfl
           rotate_left
           ·
            simp only [Act.put, List.setIfInBounds_toArray, List.set_cons_zero, List.set_cons_succ, i64_w, i32_w]
            rfl
           refine pure_ (i := 8) (N := some 47) (v := ?_) (a' := ?_) #[true, true, true, true, true, true, true, true, true, false, false, false, false, false, false, false, false, false, false, false, false, false, false, false] rfl rfl (any_of HT_.out (by kernel_rfl)) (fun _ _ _ h => h) (Or.inl ⟨by rfl, ?_⟩) ?_ ?_
           rotate_left
           ·
            intro w'
            go_simp
            with_reducible rfl
           rotate_left
           ·
            simp only [Act.put, List.setIfInBounds_toArray, List.set_cons_zero, List.set_cons_succ, i64_w, i32_w]
            rfl
           refine pure_ (i := 9) (N := some 48) (v := undef) (a' := ?_) #[true, true, true, true, true, true, true, true, true, true, false, false, false, false, false, false, false, false, false, false, false, false, false, false] rfl rfl (any_of HT_.out (by kernel_rfl)) (fun _ _ _ h => h) (Or.inr ⟨by rfl, rfl⟩) ?_ ?_
           rotate_left
           ·
            simp only [Act.put, List.setIfInBounds_toArray, List.set_cons_zero, List.set_cons_succ, i64_w, i32_w]
            rfl
           refine pure_ (i := 10) (N := some 49) (v := undef) (a' := ?_) #[true, true, true, true, true, true, true, true, true, true, true, false, false, false, false, false, false, false, false, false, false, false, false, false] rfl rfl (any_of HT_.out (by kernel_rfl)) (fun _ _ _ h => h) (Or.inr ⟨by rfl, rfl⟩) ?_ ?_
           rotate_left
           ·
            simp only [Act.put, List.setIfInBounds_toArray, List.set_cons_zero, List.set_cons_succ, i64_w, i32_w]
            rfl
           refine pure_ (i := 11) (N := some 50) (v := undef) (a' := ?_) #[true, true, true, true, true, true, true, true, true, true, true, true, false, false, false, false, false, false, false, false, false, false, false, false] rfl rfl (any_of HT_.out (by kernel_rfl)) (fun _ _ _ h => h) (Or.inr ⟨by rfl, rfl⟩) ?_ ?_
           rotate_left
           ·
            simp only [Act.put, List.setIfInBounds_toArray, List.set_cons_zero, List.set_cons_succ, i64_w, i32_w]
            rfl
           refine pure_ (i := 12) (N := some 51) (v := undef) (a' := ?_) #[true, true, true, true, true, true, true, true, true, true, true, true, true, false, false, false, false, false, false, false, false, false, false, false] rfl rfl (any_of HT_.out (by kernel_rfl)) (fun _ _ _ h => h) (Or.inr ⟨by rfl, rfl⟩) ?_ ?_
           rotate_left
           ·
            simp only [Act.put, List.setIfInBounds_toArray, List.set_cons_zero, List.set_cons_succ, i64_w, i32_w]
            rfl
           refine pure_ (i := 13) (N := some 52) (v := undef) (a' := ?_) #[true, true, true, true, true, true, true, true, true, true, true, true, true, true, false, false, false, false, false, false, false, false, false, false] rfl rfl (any_of HT_.out (by kernel_rfl)) (fun _ _ _ h => h) (Or.inr ⟨by rfl, rfl⟩) ?_ ?_
           rotate_left
           ·
            simp only [Act.put, List.setIfInBounds_toArray, List.set_cons_zero, List.set_cons_succ, i64_w, i32_w]
            rfl
           refine pure_ (i := 14) (N := some 53) (v := undef) (a' := ?_) #[true, true, true, true, true, true, true, true, true, true, true, true, true, true, true, false, false, false, false, false, false, false, false, false] rfl rfl (any_of HT_.out (by kernel_rfl)) (fun _ _ _ h => h) (Or.inr ⟨by rfl, rfl⟩) ?_ ?_
           rotate_left
           ·
            simp only [Act.put, List.setIfInBounds_toArray, List.set_cons_zero, List.set_cons_succ, i64_w, i32_w]
            rfl
           refine pure_ (i := 15) (N := some 54) (v := undef) (a' := ?_) #[true, true, true, true, true, true, true, true, true, true, true, true, true, true, true, true, false, false, false, false, false, false, false, false] rfl rfl (any_of HT_.out (by kernel_rfl)) (fun _ _ _ h => h) (Or.inr ⟨by rfl, rfl⟩) ?_ ?_
           rotate_left
           ·
            simp only [Act.put, List.setIfInBounds_toArray, List.set_cons_zero, List.set_cons_succ, i64_w, i32_w]
            rfl
           refine pure_ (i := 16) (N := some 55) (v := undef) (a' := ?_) #[true, true, true, true, true, true, true, true, true, true, true, true, true, true, true, true, true, false, false, false, false, false, false, false] rfl rfl (any_of HT_.out (by kernel_rfl)) (fun _ _ _ h => h) (Or.inr ⟨by rfl, rfl⟩) ?_ ?_
           rotate_left
           ·
            simp only [Act.put, List.setIfInBounds_toArray, List.set_cons_zero, List.set_cons_succ, i64_w, i32_w]
            rfl
           refine pure_ (i := 17) (N := some 56) (v := undef) (a' := ?_) #[true, true, true, true, true, true, true, true, true, true, true, true, true, true, true, true, true, true, false, false, false, false, false, false] rfl rfl (any_of HT_.out (by kernel_rfl)) (fun _ _ _ h => h) (Or.inr ⟨by rfl, rfl⟩) ?_ ?_
           rotate_left
           ·
            simp only [Act.put, List.setIfInBounds_toArray, List.set_cons_zero, List.set_cons_succ, i64_w, i32_w]
            rfl
           refine pure_ (i := 18) (N := some 57) (v := undef) (a' := ?_) #[true, true, true, true, true, true, true, true, true, true, true, true, true, true, true, true, true, true, true, false, false, false, false, false] rfl rfl (any_of HT_.out (by kernel_rfl)) (fun _ _ _ h => h) (Or.inr ⟨by rfl, rfl⟩) ?_ ?_
           rotate_left
           ·
            simp only [Act.put, List.setIfInBounds_toArray, List.set_cons_zero, List.set_cons_succ, i64_w, i32_w]
            rfl
           refine pure_ (i := 19) (N := some 58) (v := undef) (a' := ?_) #[true, true, true, true, true, true, true, true, true, true, true, true, true, true, true, true, true, true, true, true, false, false, false, false] rfl rfl (any_of HT_.out (by kernel_rfl)) (fun _ _ _ h => h) (Or.inr ⟨by rfl, rfl⟩) ?_ ?_
           rotate_left
           ·
            simp only [Act.put, List.setIfInBounds_toArray, List.set_cons_zero, List.set_cons_succ, i64_w, i32_w]
            rfl
           refine pure_ (i := 20) (N := some 59) (v := undef) (a' := ?_) #[true, true, true, true, true, true, true, true, true, true, true, true, true, true, true, true, true, true, true, true, true, false, false, false] rfl rfl (any_of HT_.out (by kernel_rfl)) (fun _ _ _ h => h) (Or.inr ⟨by rfl, rfl⟩) ?_ ?_
           rotate_left
           ·
            simp only [Act.put, List.setIfInBounds_toArray, List.set_cons_zero, List.set_cons_succ, i64_w, i32_w]
            rfl
           refine pure_ (i := 21) (N := some 60) (v := undef) (a' := ?_) #[true, true, true, true, true, true, true, true, true, true, true, true, true, true, true, true, true, true, true, true, true, true, false, false] rfl rfl (any_of HT_.out (by kernel_rfl)) (fun _ _ _ h => h) (Or.inr ⟨by rfl, rfl⟩) ?_ ?_
           rotate_left
           ·
            simp only [Act.put, List.setIfInBounds_toArray, List.set_cons_zero, List.set_cons_succ, i64_w, i32_w]
            rfl
           refine pure_ (i := 22) (N := some 61) (v := ?_) (a' := ?_) #[true, true, true, true, true, true, true, true, true, true, true, true, true, true, true, true, true, true, true, true, true, true, true, false] rfl rfl (any_of HT_.out (by kernel_rfl)) (fun _ _ _ h => h) (Or.inl ⟨by rfl, ?_⟩) ?_ ?_
           rotate_left
           ·
            intro w'
            go_simp
            with_reducible rfl
           rotate_left
           ·
            simp only [Act.put, List.setIfInBounds_toArray, List.set_cons_zero, List.set_cons_succ, i64_w, i32_w]
            rfl
           refine pure_ (i := 23) (N := some 4) (v := ?_) (a' := ?_) #[true, true, true, true, true, true, true, true, true, true, true, true, true, true, true, true, true, true, true, true, true, true, true, true] rfl rfl (any_of HT_.out (by kernel_rfl)) (fun _ _ _ h => h) (Or.inl ⟨by rfl, ?_⟩) ?_ ?_
           rotate_left
           ·
            intro w'
            go_simp
            with_reducible rfl
           rotate_left
           ·
            simp only [Act.put, List.setIfInBounds_toArray, List.set_cons_zero, List.set_cons_succ, i64_w, i32_w]
            rfl
           refine done_ (done_of HT_.out (by kernel_rfl)) ?_
           try go_wp2
           go_ret
           exact ⟨by first | rfl | (simp [errW_none, errW_some] <;> rfl) | (simp [*, errW_none, errW_some] <;> rfl), by repeat (first | (with_reducible first | exact HB.out | apply below_alloc | apply pw_below_drewN | apply below_drew1) | exact HB.out)⟩
         ·
          rw [if_neg c16] at H
          have c16b0 : decide (1 < (t214.size : Int)) = false := decide_eq_false c16
          have c16b1 : decide (1 < t214.size) = false := decide_eq_false (by omega)
          clear c16
          obtain rfl := Option.some.inj H
          try go_wp2_with (first | ((with_reducible refine gate_callee (f := 10) rfl ?_); refine goesL_ (some 36) rfl rfl Tryd.func10 (by kernel_rfl) rfl #[.string (a0 ++ (⟨#[10]⟩ : ByteArray))] rfl (by (try simp only [List.map_toArray, List.map_cons, List.map_nil]); first | done | rfl | (simp only [List.length_drop, List.length_take]; rfl)) ?_; (with_reducible refine (impl_SjString.calls kj5 (a0 ++ (⟨#[10]⟩ : ByteArray)) t214 _ A14.out (HG.out.below (by repeat (first | (with_reducible first | exact HB.out | apply below_alloc | apply pw_below_drewN | apply below_drew1) | exact HB.out)))).mono ?_); rintro e w34 ⟨rfl, hb⟩; refine ⟨_, rfl, ?_⟩; have n0_ := Aside0.mk (below_step (by repeat (first | (with_reducible first | exact HB.out | apply below_alloc | apply pw_below_drewN | apply below_drew1) | exact HB.out)) hb); clear HB; have HB := n0_; clear n0_; (try clear hb); (try clear hb2); (try clear hk); (try clear hi)) | ((with_reducible refine gate_callee (f := 10) rfl ?_); refine goesL_ (some 38) rfl rfl Tryd.func10 (by kernel_rfl) rfl #[.string ((⟨#[92]⟩ : ByteArray) ++ a1)] rfl (by (try simp only [List.map_toArray, List.map_cons, List.map_nil]); first | done | rfl | (simp only [List.length_drop, List.length_take]; rfl)) ?_; (with_reducible refine (impl_SjString.calls kj5 ((⟨#[92]⟩ : ByteArray) ++ a1) t215 _ A15.out (HG.out.below (by repeat (first | (with_reducible first | exact HB.out | apply below_alloc | apply pw_below_drewN | apply below_drew1) | exact HB.out)))).mono ?_); rintro e w35 ⟨rfl, hb⟩; refine ⟨_, rfl, ?_⟩; have n0_ := Aside0.mk (below_step (by repeat (first | (with_reducible first | exact HB.out | apply below_alloc | apply pw_below_drewN | apply below_drew1) | exact HB.out)) hb); clear HB; have HB := n0_; clear n0_; (try clear hb); (try clear hb2); (try clear hk); (try clear hi)))
          have n0_ := Aside0.mk (below_drew1 HB.out)
          clear HB
          have HB := n0_
          clear n0_
          refine start_ (n := 24) (S := fun w' => True) (ds := []) #[false, false, false, false, false, false, false, false, false, false, false, false, false, false, false, false, false, false, false, false, false, false, false, false] (by kernel_rfl) rfl rfl trivial (fun hHeld => ?_); refine with_tabW laws_FnSjStringJoin.tab7 laws_FnSjStringJoin.bits7 (fun HT_ HW_ => ?_)
          generalize w35.drew = w36 at HB hHeld ⊢
          refine pure_ (i := 0) (N := some 39) (v := ?_) (a' := ?_) #[true, false, false, false, false, false, false, false, false, false, false, false, false, false, false, false, false, false, false, false, false, false, false, false] rfl rfl (any_of HT_.out (by kernel_rfl)) (fun _ _ _ h => h) (Or.inl ⟨by rfl, ?_⟩) ?_ ?_
          rotate_left
          ·
           intro w'
           go_simp
           with_reducible rfl
          rotate_left
          ·
           simp only [Act.put, List.setIfInBounds_toArray, List.set_cons_zero, List.set_cons_succ, i64_w, i32_w]
           rfl
          refine pure_ (i := 1) (N := some 40) (v := ?_) (a' := ?_) #[true, true, false, false, false, false, false, false, false, false, false, false, false, false, false, false, false, false, false, false, false, false, false, false] rfl rfl (any_of HT_.out (by kernel_rfl)) (fun _ _ _ h => h) (Or.inl ⟨by rfl, ?_⟩) ?_ ?_
          rotate_left
          ·
           intro w'
           go_simp
           with_reducible rfl
          rotate_left
          ·
           simp only [Act.put, List.setIfInBounds_toArray, List.set_cons_zero, List.set_cons_succ, i64_w, i32_w]
           rfl
          refine pure_ (i := 2) (N := some 41) (v := ?_) (a' := ?_) #[true, true, true, false, false, false, false, false, false, false, false, false, false, false, false, false, false, false, false, false, false, false, false, false] rfl rfl (any_of HT_.out (by kernel_rfl)) (fun _ _ _ h => h) (Or.inl ⟨by rfl, ?_⟩) ?_ ?_
          rotate_left
          ·
           intro w'
           go_simp
           with_reducible rfl
          rotate_left
          ·
           simp only [Act.put, List.setIfInBounds_toArray, List.set_cons_zero, List.set_cons_succ, i64_w, i32_w]
           rfl
          refine pure_ (i := 3) (N := some 42) (v := ?_) (a' := ?_) #[true, true, true, true, false, false, false, false, false, false, false, false, false, false, false, false, false, false, false, false, false, false, false, false] rfl rfl (any_of HT_.out (by kernel_rfl)) (fun _ _ _ h => h) (Or.inl ⟨by rfl, ?_⟩) ?_ ?_
          rotate_left
          ·
           intro w'
           go_simp
           with_reducible rfl
          rotate_left
          ·
           simp only [Act.put, List.setIfInBounds_toArray, List.set_cons_zero, List.set_cons_succ, i64_w, i32_w]
           rfl
          refine pure_ (i := 4) (N := some 43) (v := undef) (a' := ?_) #[true, true, true, true, true, false, false, false, false, false, false, false, false, false, false, false, false, false, false, false, false, false, false, false] rfl rfl (any_of HT_.out (by kernel_rfl)) (fun _ _ _ h => h) (Or.inr ⟨by rfl, rfl⟩) ?_ ?_
          rotate_left
          ·
           simp only [Act.put, List.setIfInBounds_toArray, List.set_cons_zero, List.set_cons_succ, i64_w, i32_w]
           rfl
          refine pure_ (i := 5) (N := some 44) (v := undef) (a' := ?_) #[true, true, true, true, true, true, false, false, false, false, false, false, false, false, false, false, false, false, false, false, false, false, false, false] rfl rfl (any_of HT_.out (by kernel_rfl)) (fun _ _ _ h => h) (Or.inr ⟨by rfl, rfl⟩) ?_ ?_
          rotate_left
          ·
           simp only [Act.put, List.setIfInBounds_toArray, List.set_cons_zero, List.set_cons_succ, i64_w, i32_w]
           rfl
          refine pure_ (i := 6) (N := some 45) (v := undef) (a' := ?_) #[true, true, true, true, true, true, true, false, false, false, false, false, false, false, false, false, false, false, false, false, false, false, false, false] rfl rfl (any_of HT_.out (by kernel_rfl)) (fun _ _ _ h => h) (Or.inr ⟨by rfl, rfl⟩) ?_ ?_
          rotate_left
          ·
           simp only [Act.put, List.setIfInBounds_toArray, List.set_cons_zero, List.set_cons_succ, i64_w, i32_w]
           rfl
          refine pure_ (i := 7) (N := some 46) (v := ?_) (a' := ?_) #[true, true, true, true, true, true, true, true, false, false, false, false, false, false, false, false, false, false, false, false, false, false, false, false] rfl rfl (any_of HT_.out (by kernel_rfl)) (fun _ _ _ h => h) (Or.inl ⟨by rfl, ?_⟩) ?_ ?_
          rotate_left
          ·
           intro w'
           go_simp
           with_reducible rfl
          rotate_left
          ·
           simp only [Act.put, List.setIfInBounds_toArray, List.set_cons_zero, List.set_cons_succ, i64_w, i32_w]
           rfl
          refine pure_ (i := 8) (N := some 47) (v := ?_) (a' := ?_) #[true, true, true, true, true, true, true, true, true, false, false, false, false, false, false, false, false, false, false, false, false, false, false, false] rfl rfl (any_of HT_.out (by kernel_rfl)) (fun _ _ _ h => h) (Or.inl ⟨by rfl, ?_⟩) ?_ ?_
          rotate_left
          ·
           intro w'
           go_simp
           with_reducible rfl
          rotate_left
          ·
           simp only [Act.put, List.setIfInBounds_toArray, List.set_cons_zero, List.set_cons_succ, i64_w, i32_w]
           rfl
          refine pure_ (i := 9) (N := some 48) (v := undef) (a' := ?_) #[true, true, true, true, true, true, true, true, true, true, false, false, false, false, false, false, false, false, false, false, false, false, false, false] rfl rfl (any_of HT_.out (by kernel_rfl)) (fun _ _ _ h => h) (Or.inr ⟨by rfl, rfl⟩) ?_ ?_
          rotate_left
          ·
           simp only [Act.put, List.setIfInBounds_toArray, List.set_cons_zero, List.set_cons_succ, i64_w, i32_w]
           rfl
          refine pure_ (i := 10) (N := some 49) (v := undef) (a' := ?_) #[true, true, true, true, true, true, true, true, true, true, true, false, false, false, false, false, false, false, false, false, false, false, false, false] rfl rfl (any_of HT_.out (by kernel_rfl)) (fun _ _ _ h => h) (Or.inr ⟨by rfl, rfl⟩) ?_ ?_
          rotate_left
          ·
           simp only [Act.put, List.setIfInBounds_toArray, List.set_cons_zero, List.set_cons_succ, i64_w, i32_w]
           rfl
          refine pure_ (i := 11) (N := some 50) (v := undef) (a' := ?_) #[true, true, true, true, true, true, true, true, true, true, true, true, false, false, false, false, false, false, false, false, false, false, false, false] rfl rfl (any_of HT_.out (by kernel_rfl)) (fun _ _ _ h => h) (Or.inr ⟨by rfl, rfl⟩) ?_ ?_
          rotate_left
          ·
           simp only [Act.put, List.setIfInBounds_toArray, List.set_cons_zero, List.set_cons_succ, i64_w, i32_w]
           rfl
          refine pure_ (i := 12) (N := some 51) (v := undef) (a' := ?_) #[true, true, true, true, true, true, true, true, true, true, true, true, true, false, false, false, false, false, false, false, false, false, false, false] rfl rfl (any_of HT_.out (by kernel_rfl)) (fun _ _ _ h => h) (Or.inr ⟨by rfl, rfl⟩) ?_ ?_
          rotate_left
          ·
           simp only [Act.put, List.setIfInBounds_toArray, List.set_cons_zero, List.set_cons_succ, i64_w, i32_w]
           rfl
          refine pure_ (i := 13) (N := some 52) (v := undef) (a' := ?_) #[true, true, true, true, true, true, true, true, true, true, true, true, true, true, false, false, false, false, false, false, false, false, false, false] rfl rfl (any_of HT_.out (by kernel_rfl)) (fun _ _ _ h => h) (Or.inr ⟨by rfl, rfl⟩) ?_ ?_
          rotate_left
          ·
           simp only [Act.put, List.setIfInBounds_toArray, List.set_cons_zero, List.set_cons_succ, i64_w, i32_w]
           rfl
          refine pure_ (i := 14) (N := some 53) (v := undef) (a' := ?_) #[true, true, true, true, true, true, true, true, true, true, true, true, true, true, true, false, false, false, false, false, false, false, false, false] rfl rfl (any_of HT_.out (by kernel_rfl)) (fun _ _ _ h => h) (Or.inr ⟨by rfl, rfl⟩) ?_ ?_
          rotate_left
          ·
           simp only [Act.put, List.setIfInBounds_toArray, List.set_cons_zero, List.set_cons_succ, i64_w, i32_w]
           rfl
          refine pure_ (i := 15) (N := some 54) (v := undef) (a' := ?_) #[true, true, true, true, true, true, true, true, true, true, true, true, true, true, true, true, false, false, false, false, false, false, false, false] rfl rfl (any_of HT_.out (by kernel_rfl)) (fun _ _ _ h => h) (Or.inr ⟨by rfl, rfl⟩) ?_ ?_
          rotate_left
          ·
           simp only [Act.put, List.setIfInBounds_toArray, List.set_cons_zero, List.set_cons_succ, i64_w, i32_w]
           rfl
          refine pure_ (i := 16) (N := some 55) (v := undef) (a' := ?_) #[true, true, true, true, true, true, true, true, true, true, true, true, true, true, true, true, true, false, false, false, false, false, false, false] rfl rfl (any_of HT_.out (by kernel_rfl)) (fun _ _ _ h => h) (Or.inr ⟨by rfl, rfl⟩) ?_ ?_
          rotate_left
          ·
           simp only [Act.put, List.setIfInBounds_toArray, List.set_cons_zero, List.set_cons_succ, i64_w, i32_w]
           rfl
          refine pure_ (i := 17) (N := some 56) (v := undef) (a' := ?_) #[true, true, true, true, true, true, true, true, true, true, true, true, true, true, true, true, true, true, false, false, false, false, false, false] rfl rfl (any_of HT_.out (by kernel_rfl)) (fun _ _ _ h => h) (Or.inr ⟨by rfl, rfl⟩) ?_ ?_
          rotate_left
          ·
           simp only [Act.put, List.setIfInBounds_toArray, List.set_cons_zero, List.set_cons_succ, i64_w, i32_w]
           rfl
          refine pure_ (i := 18) (N := some 57) (v := undef) (a' := ?_) #[true, true, true, true, true, true, true, true, true, true, true, true, true, true, true, true, true, true, true, false, false, false, false, false] rfl rfl (any_of HT_.out (by kernel_rfl)) (fun _ _ _ h => h) (Or.inr ⟨by rfl, rfl⟩) ?_ ?_
          rotate_left
          ·
           simp only [Act.put, List.setIfInBounds_toArray, List.set_cons_zero, List.set_cons_succ, i64_w, i32_w]
           rfl
          refine pure_ (i := 19) (N := some 58) (v := undef) (a' := ?_) #[true, true, true, true, true, true, true, true, true, true, true, true, true, true, true, true, true, true, true, true, false, false, false, false] rfl rfl (any_of HT_.out (by kernel_rfl)) (fun _ _ _ h => h) (Or.inr ⟨by rfl, rfl⟩) ?_ ?_
          rotate_left
          ·
           simp only [Act.put, List.setIfInBounds_toArray, List.set_cons_zero, List.set_cons_succ, i64_w, i32_w]
           rfl
          refine pure_ (i := 20) (N := some 59) (v := undef) (a' := ?_) #[true, true, true, true, true, true, true, true, true, true, true, true, true, true, true, true, true, true, true, true, true, false, false, false] rfl rfl (any_of HT_.out (by kernel_rfl)) (fun _ _ _ h => h) (Or.inr ⟨by rfl, rfl⟩) ?_ ?_
          rotate_left
          ·
           simp only [Act.put, List.setIfInBounds_toArray, List.set_cons_zero, List.set_cons_succ, i64_w, i32_w]
           rfl
          refine pure_ (i := 21) (N := some 60) (v := undef) (a' := ?_) #[true, true, true, true, true, true, true, true, true, true, true, true, true, true, true, true, true, true, true, true, true, true, false, false] rfl rfl (any_of HT_.out (by kernel_rfl)) (fun _ _ _ h => h) (Or.inr ⟨by rfl, rfl⟩) ?_ ?_
          rotate_left
          ·
           simp only [Act.put, List.setIfInBounds_toArray, List.set_cons_zero, List.set_cons_succ, i64_w, i32_w]
           rfl
          refine pure_ (i := 22) (N := some 61) (v := ?_) (a' := ?_) #[true, true, true, true, true, true, true, true, true, true, true, true, true, true, true, true, true, true, true, true, true, true, true, false] rfl rfl (any_of HT_.out (by kernel_rfl)) (fun _ _ _ h => h) (Or.inl ⟨by rfl, ?_⟩) ?_ ?_
          rotate_left
          ·
           intro w'
           go_simp
           with_reducible rfl
          rotate_left
          ·
           simp only [Act.put, List.setIfInBounds_toArray, List.set_cons_zero, List.set_cons_succ, i64_w, i32_w]
           rfl
          refine pure_ (i := 23) (N := some 4) (v := ?_) (a' := ?_) #[true, true, true, true, true, true, true, true, true, true, true, true, true, true, true, true, true, true, true, true, true, true, true, true] rfl rfl (any_of HT_.out (by kernel_rfl)) (fun _ _ _ h => h) (Or.inl ⟨by rfl, ?_⟩) ?_ ?_
          rotate_left
          ·
           intro w'
           go_simp
           with_reducible rfl
          rotate_left
          ·
           simp only [Act.put, List.setIfInBounds_toArray, List.set_cons_zero, List.set_cons_succ, i64_w, i32_w]
           rfl
          refine done_ (done_of HT_.out (by kernel_rfl)) ?_
          try go_wp2
          go_ret
          exact ⟨by first | rfl | (simp [errW_none, errW_some] <;> rfl) | (simp [*, errW_none, errW_some] <;> rfl), by repeat (first | (with_reducible first | exact HB.out | apply below_alloc | apply pw_below_drewN | apply below_drew1) | exact HB.out)⟩
        ·
         rw [if_neg c13] at H
         exact absurd H (by simp)
       ·
        rw [if_neg c12] at H
        exact absurd H (by simp)

/-- THE ONE PURE STATEMENT of laws_FnSjStringJoin: yours. -/
def laws_FnSjStringJoin.Pure : Prop := ∀ (a0 : ByteArray) (a1 : ByteArray), a0.size ≤ 140737488351232 → a1.size ≤ 140737488351232 → ∃ k, laws_FnSjStringJoin.f k a0 a1 = some true
theorem laws_FnSjStringJoin.walk (P : laws_FnSjStringJoin.Pure) (a0 : ByteArray) (a1 : ByteArray) (w : World) (w0 : a0.size ≤ 140737488351232) (w1 : a1.size ≤ 140737488351232) (hG : Glob w) :
    Calls Tryd.prog 3 #[.string a0, .string a1] w fun e w' => e = .returned (.bool true) ∧ Below w.heap.size w w' := by
  obtain ⟨k, h⟩ := P a0 a1 w0 w1
  refine (laws_FnSjStringJoin.calls k a0 a1 true w h hG).mono ?_
  rintro e w' ⟨rfl, hd⟩
  exact ⟨rfl, hd⟩

end Go.Proofs.YtljmeaemonpkoaaDoor.PFnSjStringJoin
