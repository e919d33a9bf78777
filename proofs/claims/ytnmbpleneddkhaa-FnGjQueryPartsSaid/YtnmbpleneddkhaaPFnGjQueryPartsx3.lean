-- Written by a program of this session (wip/prx) out of the print of the loaded functions.
import Derived.Test.YtnmbpleneddkhaaPFnGjQueryPartsx0
import Derived.Test.YtnmbpleneddkhaaPFnGjQueryPartsx1
import Derived.Test.YtnmbpleneddkhaaPFnGjQueryPartsx2
import Derived.Test.YtnmbpleneddkhaaHOFnGjQueryParts
namespace Go.Proofs.Ytnmbpleneddkhaa.PFnGjQueryParts
open Go.RowKit Go.Proofs.YtnmbpleneddkhaaW.PrintWords Go.Proofs.YtnmbpleneddkhaaW.PrintLast Go.Proofs.YtnmbpleneddkhaaW.PrintMore
attribute [local go_sem] max2_int min2_int max_two min_two max_three min_three max_four min_four   -- for this text's walks alone
set_option linter.unusedVariables false
set_option linter.unusedSimpArgs false

/-! ### gjson_DoorQuery: function 31 -/
def gjson_DoorQuery.f (k : Nat) (a0 : ByteArray) : Option (ByteArray × ByteArray × ByteArray × ByteArray × Int × Bool × Bool) := (gjson_parseQuery.f k a0).bind fun bt115 => (some (bt115.1, bt115.2.1, bt115.2.2.1, bt115.2.2.2.1, bt115.2.2.2.2.1, bt115.2.2.2.2.2.1, bt115.2.2.2.2.2.2))
theorem gjson_DoorQuery.mono : ∀ a0 k, LeO (gjson_DoorQuery.f k a0) (gjson_DoorQuery.f (k + 1) a0) := by
  intro a0 k
  unfold gjson_DoorQuery.f
  repeat' first
      | (with_reducible exact gjson_parseQuery.mono _ _)
      | (with_reducible exact LeO.refl _)
      | (with_reducible exact LeO.none _)
      | (with_reducible refine LeO.ite ?_ ?_)
      | (with_reducible refine LeO.bind ?_ (fun _ => ?_))
      | exact gjson_parseQuery.mono _ _
      | exact LeO.none _
      | refine LeO.ite ?_ ?_
      | refine LeO.bind ?_ (fun _ => ?_)
set_option maxHeartbeats 8000000 in
set_option maxRecDepth 100000 in
theorem gjson_DoorQuery.calls (k : Nat) (a0 : ByteArray) (r1 : ByteArray) (r2 : ByteArray) (r3 : ByteArray) (r4 : ByteArray) (r5 : Int) (r6 : Bool) (r7 : Bool) (w : World) (h : gjson_DoorQuery.f k a0 = some (r1, r2, r3, r4, r5, r6, r7)) :
    Calls Try.prog 31 #[.string a0] w fun e w' => e = .returned (.tuple #[.string r1, .string r2, .string r3, .string r4, .int .i64 r5, .bool r6, .bool r7]) ∧ Drawn0 w w' := by
 have H : ((gjson_parseQuery.f k a0).bind fun bt115 => (some (bt115.1, bt115.2.1, bt115.2.2.1, bt115.2.2.2.1, bt115.2.2.2.2.1, bt115.2.2.2.2.2.1, bt115.2.2.2.2.2.2))) = some (r1, r2, r3, r4, r5, r6, r7) := h
 clear h
 replace H := Option.bind_eq_some_iff.mp H
 obtain ⟨⟨t115, t116, t117, t118, t119, t120, t121⟩, A20, H⟩ := H
 replace H : (some (t115, t116, t117, t118, t119, t120, t121)) = some (r1, r2, r3, r4, r5, r6, r7) := H
 have A2 := Aside0.mk A20
 clear A20
 as_aux_lemma =>
  simp only [Option.some.injEq, Prod.mk.injEq] at H
  obtain ⟨rfl, rfl, rfl, rfl, rfl, rfl, rfl⟩ := H
  go_enter Try.func31, Try.ntmps31
  go_wp2_with (first | ((with_reducible refine gate_callee (f := 45) rfl ?_); refine goesL_ (some 10) rfl rfl Try.func45 (by kernel_rfl) rfl #[.string a0] rfl (by (try simp only [List.map_toArray, List.map_cons, List.map_nil]); first | done | rfl | (simp only [List.length_drop, List.length_take]; rfl)) ?_; (with_reducible refine (gjson_parseQuery.calls k a0 t115 t116 t117 t118 t119 t120 t121 _ A2.out).mono ?_); rintro e w' ⟨rfl, ⟨nd, rfl⟩⟩; refine ⟨_, rfl, ?_⟩))
  refine bodyPost_ret (results_list (rs := [.tmp 2, .tmp 3, .tmp 4, .tmp 5, .tmp 6, .tmp 7, .tmp 8]) rfl (by simp) (.tmp (.tmp (.tmp (.tmp (.tmp (.tmp (.tmp .nil)))))))) rfl ?_
  exact ⟨by first | rfl | (simp; done) | (simp [nil_ne_, nil_eq_]; done) | (simp [*]; done), by repeat (first | exact Drawn0.refl _ | apply Drawn0.step)⟩

/-! ### impl_GjQuery: function 21 -/
def impl_GjQuery.f (k : Nat) (a0 : ByteArray) : Option (ByteArray × ByteArray × ByteArray × ByteArray × Int × Bool × Bool) := (gjson_DoorQuery.f k a0).bind fun bt122 => (some (bt122.1, bt122.2.1, bt122.2.2.1, bt122.2.2.2.1, bt122.2.2.2.2.1, bt122.2.2.2.2.2.1, bt122.2.2.2.2.2.2))
theorem impl_GjQuery.mono : ∀ a0 k, LeO (impl_GjQuery.f k a0) (impl_GjQuery.f (k + 1) a0) := by
  intro a0 k
  unfold impl_GjQuery.f
  repeat' first
      | (with_reducible exact gjson_DoorQuery.mono _ _)
      | (with_reducible exact LeO.refl _)
      | (with_reducible exact LeO.none _)
      | (with_reducible refine LeO.ite ?_ ?_)
      | (with_reducible refine LeO.bind ?_ (fun _ => ?_))
      | exact gjson_DoorQuery.mono _ _
      | exact LeO.none _
      | refine LeO.ite ?_ ?_
      | refine LeO.bind ?_ (fun _ => ?_)
set_option maxHeartbeats 8000000 in
set_option maxRecDepth 100000 in
theorem impl_GjQuery.calls (k : Nat) (a0 : ByteArray) (r1 : ByteArray) (r2 : ByteArray) (r3 : ByteArray) (r4 : ByteArray) (r5 : Int) (r6 : Bool) (r7 : Bool) (w : World) (h : impl_GjQuery.f k a0 = some (r1, r2, r3, r4, r5, r6, r7)) :
    Calls Try.prog 21 #[.string a0] w fun e w' => e = .returned (.tuple #[.string r1, .string r2, .string r3, .string r4, .int .i64 r5, .bool r6, .bool r7]) ∧ Drawn0 w w' := by
 have H : ((gjson_DoorQuery.f k a0).bind fun bt122 => (some (bt122.1, bt122.2.1, bt122.2.2.1, bt122.2.2.2.1, bt122.2.2.2.2.1, bt122.2.2.2.2.2.1, bt122.2.2.2.2.2.2))) = some (r1, r2, r3, r4, r5, r6, r7) := h
 clear h
 replace H := Option.bind_eq_some_iff.mp H
 obtain ⟨⟨t122, t123, t124, t125, t126, t127, t128⟩, A20, H⟩ := H
 replace H : (some (t122, t123, t124, t125, t126, t127, t128)) = some (r1, r2, r3, r4, r5, r6, r7) := H
 have A2 := Aside0.mk A20
 clear A20
 as_aux_lemma =>
  simp only [Option.some.injEq, Prod.mk.injEq] at H
  obtain ⟨rfl, rfl, rfl, rfl, rfl, rfl, rfl⟩ := H
  go_enter Try.func21, Try.ntmps21
  go_wp2_with (first | ((with_reducible refine gate_callee (f := 31) rfl ?_); refine goesL_ (some 10) rfl rfl Try.func31 (by kernel_rfl) rfl #[.string a0] rfl (by (try simp only [List.map_toArray, List.map_cons, List.map_nil]); first | done | rfl | (simp only [List.length_drop, List.length_take]; rfl)) ?_; (with_reducible refine (gjson_DoorQuery.calls k a0 t122 t123 t124 t125 t126 t127 t128 _ A2.out).mono ?_); rintro e w' ⟨rfl, ⟨nd, rfl⟩⟩; refine ⟨_, rfl, ?_⟩))
  refine bodyPost_ret (results_list (rs := [.tmp 2, .tmp 3, .tmp 4, .tmp 5, .tmp 6, .tmp 7, .tmp 8]) rfl (by simp) (.tmp (.tmp (.tmp (.tmp (.tmp (.tmp (.tmp .nil)))))))) rfl ?_
  exact ⟨by first | rfl | (simp; done) | (simp [nil_ne_, nil_eq_]; done) | (simp [*]; done), by repeat (first | exact Drawn0.refl _ | apply Drawn0.step)⟩

/-! ### laws_FnGjQueryParts: function 7 -/
mutual
def laws_FnGjQueryParts.j0 : Nat → ByteArray → ByteArray → ByteArray → Int → Bool → Option (Bool)
  | 0, _, _, _, _, _ => none
  | k + 1, x0, x1, x2, x3, x32 => if x32 = true then (some true) else (laws_FnGjQueryParts.l0 k x0 x1 x2 x3 0)
def laws_FnGjQueryParts.l0 : Nat → ByteArray → ByteArray → ByteArray → Int → Int → Option (Bool)
  | 0, _, _, _, _, _ => none
  | k + 1, x0, x1, x2, x3, x9 => if x9 < (x1.size : Int) then (if 0 ≤ x9 then (if (bt x1 x9) = 34 then (some true) else (if (bt x1 x9) = 92 then (some true) else (laws_FnGjQueryParts.l0 k x0 x1 x2 x3 (wrap64 (x9 + 1))))) else (none)) else ((laws_gjWord.f k x0).bind fun t129 => (if t129 = true then (laws_FnGjQueryParts.j2 k x0 x1 x2 x3 (decide ((wrap64 ((wrap64 ((x0.size : Int) + (x1.size : Int))) + (x2.size : Int))) > 4096))) else (laws_FnGjQueryParts.j2 k x0 x1 x2 x3 true)))
def laws_FnGjQueryParts.j2 : Nat → ByteArray → ByteArray → ByteArray → Int → Bool → Option (Bool)
  | 0, _, _, _, _, _ => none
  | k + 1, x0, x1, x2, x3, x62 => if x62 = true then (some true) else ((laws_gjOp.f x3).bind fun t130 => (if 1 + x1.size ≤ 9223372036854775807 then (if ((⟨#[34]⟩ : ByteArray) ++ x1).size + 1 ≤ 9223372036854775807 then (if 2 + x0.size ≤ 9223372036854775807 then (if ((⟨#[35, 40]⟩ : ByteArray) ++ x0).size + t130.size ≤ 9223372036854775807 then (if (((⟨#[35, 40]⟩ : ByteArray) ++ x0) ++ t130).size + (((⟨#[34]⟩ : ByteArray) ++ x1) ++ (⟨#[34]⟩ : ByteArray)).size ≤ 9223372036854775807 then (if ((((⟨#[35, 40]⟩ : ByteArray) ++ x0) ++ t130) ++ (((⟨#[34]⟩ : ByteArray) ++ x1) ++ (⟨#[34]⟩ : ByteArray))).size + 1 ≤ 9223372036854775807 then (if (((((⟨#[35, 40]⟩ : ByteArray) ++ x0) ++ t130) ++ (((⟨#[34]⟩ : ByteArray) ++ x1) ++ (⟨#[34]⟩ : ByteArray))) ++ (⟨#[41]⟩ : ByteArray)).size + x2.size ≤ 9223372036854775807 then ((impl_GjQuery.f k ((((((⟨#[35, 40]⟩ : ByteArray) ++ x0) ++ t130) ++ (((⟨#[34]⟩ : ByteArray) ++ x1) ++ (⟨#[34]⟩ : ByteArray))) ++ (⟨#[41]⟩ : ByteArray)) ++ x2)).bind fun bt131 => (if t130.toList = ([61, 61] : List UInt8) then (if bt131.2.2.2.2.2.2 = true then (if bt131.1.toList = x0.toList then (if bt131.2.1.toList = ([61] : List UInt8) then (if bt131.2.2.1.toList = (((⟨#[34]⟩ : ByteArray) ++ x1) ++ (⟨#[34]⟩ : ByteArray)).toList then (if bt131.2.2.2.1.toList = x2.toList then (if bt131.2.2.2.2.1 = ((((((⟨#[35, 40]⟩ : ByteArray) ++ x0) ++ t130) ++ (((⟨#[34]⟩ : ByteArray) ++ x1) ++ (⟨#[34]⟩ : ByteArray))) ++ (⟨#[41]⟩ : ByteArray)).size : Int) then (some (!bt131.2.2.2.2.2.1)) else (some false)) else (some false)) else (some false)) else (some false)) else (some false)) else (some false)) else (if bt131.2.2.2.2.2.2 = true then (if bt131.1.toList = x0.toList then (if bt131.2.1.toList = t130.toList then (if bt131.2.2.1.toList = (((⟨#[34]⟩ : ByteArray) ++ x1) ++ (⟨#[34]⟩ : ByteArray)).toList then (if bt131.2.2.2.1.toList = x2.toList then (if bt131.2.2.2.2.1 = ((((((⟨#[35, 40]⟩ : ByteArray) ++ x0) ++ t130) ++ (((⟨#[34]⟩ : ByteArray) ++ x1) ++ (⟨#[34]⟩ : ByteArray))) ++ (⟨#[41]⟩ : ByteArray)).size : Int) then (some (!bt131.2.2.2.2.2.1)) else (some false)) else (some false)) else (some false)) else (some false)) else (some false)) else (some false)))) else (none)) else (none)) else (none)) else (none)) else (none)) else (none)) else (none)))
end
def laws_FnGjQueryParts.f (k : Nat) (a0 : ByteArray) (a1 : ByteArray) (a2 : ByteArray) (a3 : Int) : Option (Bool) := if (a0.size : Int) > 2147483647 then (laws_FnGjQueryParts.j0 k a0 a1 a2 a3 true) else (if (a1.size : Int) > 2147483647 then (laws_FnGjQueryParts.j0 k a0 a1 a2 a3 true) else (laws_FnGjQueryParts.j0 k a0 a1 a2 a3 (decide ((a2.size : Int) > 2147483647))))
theorem laws_FnGjQueryParts.mono_l : ∀ k, (∀ y0 y1 y2 y3 y4, LeO (laws_FnGjQueryParts.j0 k y0 y1 y2 y3 y4) (laws_FnGjQueryParts.j0 (k + 1) y0 y1 y2 y3 y4)) ∧ (∀ y0 y1 y2 y3 y4, LeO (laws_FnGjQueryParts.l0 k y0 y1 y2 y3 y4) (laws_FnGjQueryParts.l0 (k + 1) y0 y1 y2 y3 y4)) ∧ (∀ y0 y1 y2 y3 y4, LeO (laws_FnGjQueryParts.j2 k y0 y1 y2 y3 y4) (laws_FnGjQueryParts.j2 (k + 1) y0 y1 y2 y3 y4))
  | 0 => ⟨fun _ _ _ _ _ r h => by simp [laws_FnGjQueryParts.j0] at h, fun _ _ _ _ _ r h => by simp [laws_FnGjQueryParts.l0] at h, fun _ _ _ _ _ r h => by simp [laws_FnGjQueryParts.j2] at h⟩
  | k + 1 => by
    obtain ⟨ih0, ih1, ih2⟩ := laws_FnGjQueryParts.mono_l k
    refine ⟨?_, ?_, ?_⟩
    · intro y0 y1 y2 y3 y4
      unfold laws_FnGjQueryParts.j0
      repeat' first
      | (with_reducible exact ih0 _ _ _ _ _)
      | (with_reducible exact ih1 _ _ _ _ _)
      | (with_reducible exact ih2 _ _ _ _ _)
      | (with_reducible exact impl_GjQuery.mono _ _)
      | (with_reducible exact laws_gjWord.mono _ _)
      | (with_reducible exact LeO.refl _)
      | (with_reducible exact LeO.none _)
      | (with_reducible refine LeO.ite ?_ ?_)
      | (with_reducible refine LeO.bind ?_ (fun _ => ?_))
      | exact ih0 _ _ _ _ _
      | exact ih1 _ _ _ _ _
      | exact ih2 _ _ _ _ _
      | exact impl_GjQuery.mono _ _
      | exact laws_gjWord.mono _ _
      | exact LeO.none _
      | refine LeO.ite ?_ ?_
      | refine LeO.bind ?_ (fun _ => ?_)
    · intro y0 y1 y2 y3 y4
      unfold laws_FnGjQueryParts.l0
      repeat' first
      | (with_reducible exact ih0 _ _ _ _ _)
      | (with_reducible exact ih1 _ _ _ _ _)
      | (with_reducible exact ih2 _ _ _ _ _)
      | (with_reducible exact impl_GjQuery.mono _ _)
      | (with_reducible exact laws_gjWord.mono _ _)
      | (with_reducible exact LeO.refl _)
      | (with_reducible exact LeO.none _)
      | (with_reducible refine LeO.ite ?_ ?_)
      | (with_reducible refine LeO.bind ?_ (fun _ => ?_))
      | exact ih0 _ _ _ _ _
      | exact ih1 _ _ _ _ _
      | exact ih2 _ _ _ _ _
      | exact impl_GjQuery.mono _ _
      | exact laws_gjWord.mono _ _
      | exact LeO.none _
      | refine LeO.ite ?_ ?_
      | refine LeO.bind ?_ (fun _ => ?_)
    · intro y0 y1 y2 y3 y4
      unfold laws_FnGjQueryParts.j2
      repeat' first
      | (with_reducible exact ih0 _ _ _ _ _)
      | (with_reducible exact ih1 _ _ _ _ _)
      | (with_reducible exact ih2 _ _ _ _ _)
      | (with_reducible exact impl_GjQuery.mono _ _)
      | (with_reducible exact laws_gjWord.mono _ _)
      | (with_reducible exact LeO.refl _)
      | (with_reducible exact LeO.none _)
      | (with_reducible refine LeO.ite ?_ ?_)
      | (with_reducible refine LeO.bind ?_ (fun _ => ?_))
      | exact ih0 _ _ _ _ _
      | exact ih1 _ _ _ _ _
      | exact ih2 _ _ _ _ _
      | exact impl_GjQuery.mono _ _
      | exact laws_gjWord.mono _ _
      | exact LeO.none _
      | refine LeO.ite ?_ ?_
      | refine LeO.bind ?_ (fun _ => ?_)
theorem laws_FnGjQueryParts.mono : ∀ a0 a1 a2 a3 k, LeO (laws_FnGjQueryParts.f k a0 a1 a2 a3) (laws_FnGjQueryParts.f (k + 1) a0 a1 a2 a3) := by
  intro a0 a1 a2 a3 k
  obtain ⟨ih0, ih1, ih2⟩ := laws_FnGjQueryParts.mono_l k
  unfold laws_FnGjQueryParts.f
  repeat' first
      | (with_reducible exact ih0 _ _ _ _ _)
      | (with_reducible exact ih1 _ _ _ _ _)
      | (with_reducible exact ih2 _ _ _ _ _)
      | (with_reducible exact impl_GjQuery.mono _ _)
      | (with_reducible exact laws_gjWord.mono _ _)
      | (with_reducible exact LeO.refl _)
      | (with_reducible exact LeO.none _)
      | (with_reducible refine LeO.ite ?_ ?_)
      | (with_reducible refine LeO.bind ?_ (fun _ => ?_))
      | exact ih0 _ _ _ _ _
      | exact ih1 _ _ _ _ _
      | exact ih2 _ _ _ _ _
      | exact impl_GjQuery.mono _ _
      | exact laws_gjWord.mono _ _
      | exact LeO.none _
      | refine LeO.ite ?_ ?_
      | refine LeO.bind ?_ (fun _ => ?_)
set_option maxHeartbeats 8000000 in
set_option maxRecDepth 100000 in
theorem laws_FnGjQueryParts.calls (k : Nat) (a0 : ByteArray) (a1 : ByteArray) (a2 : ByteArray) (a3 : Int) (r : Bool) (w : World) (h : laws_FnGjQueryParts.f k a0 a1 a2 a3 = some r) :
    Calls Try.prog 7 #[.string a0, .string a1, .string a2, .int .i64 a3] w fun e w' => e = .returned (.bool r) ∧ Below w.heap.size w w' := by
 have HB := Aside0.mk (Below.refl w.heap.size w)
 have H : (if (a0.size : Int) > 2147483647 then (laws_FnGjQueryParts.j0 k a0 a1 a2 a3 true) else (if (a1.size : Int) > 2147483647 then (laws_FnGjQueryParts.j0 k a0 a1 a2 a3 true) else (laws_FnGjQueryParts.j0 k a0 a1 a2 a3 (decide ((a2.size : Int) > 2147483647))))) = some r := h
 clear h
 have HC5 := Aside0.mk H
 clear H
 go_enter Try.func7, Try.ntmps7
 go_upto_region 1 with (fail)
 go_cut [32] (fun v32 wc => ∃ (kq : Nat) (x32_4 : Bool), v32 = .bool x32_4 ∧ Aside0 (laws_FnGjQueryParts.j0 kq a0 a1 a2 a3 x32_4 = some r) ∧ Aside0 (kq ≤ k) ∧ Aside0 (Below w.heap.size w wc))
 case first =>
  have H := HC5.out
  clear HC5
  by_cases c6 : (a0.size : Int) > 2147483647
  ·
   rw [if_pos c6] at H
   have c6b0 : decide (2147483647 < (a0.size : Int)) = true := decide_eq_true c6
   have c6b1 : decide (2147483647 < a0.size) = true := decide_eq_true (by omega)
   clear c6
   (first | rw [c6b0] | (simp only [i64_w, i32_w]; rw [c6b0]) | skip)
   as_aux_lemma =>
    have H' := Aside0.mk H
    clear H
    go_wp2
    go_meet
    case rel => exact ⟨_, (true), (by first | rfl | (simp; done) | (simp [nil_ne_, nil_eq_]; done) | (simp [*]; done)), H', ⟨by first | omega | exact Nat.le_refl _⟩, ⟨by repeat (first | (with_reducible first | exact HB.out | apply below_alloc | apply pw_below_drewN | apply below_drew1) | exact HB.out)⟩⟩
  ·
   rw [if_neg c6] at H
   have c6b0 : decide (2147483647 < (a0.size : Int)) = false := decide_eq_false c6
   have c6b1 : decide (2147483647 < a0.size) = false := decide_eq_false (by omega)
   clear c6
   (first | rw [c6b0] | (simp only [i64_w, i32_w]; rw [c6b0]) | skip)
   by_cases c7 : (a1.size : Int) > 2147483647
   ·
    rw [if_pos c7] at H
    have c7b0 : decide (2147483647 < (a1.size : Int)) = true := decide_eq_true c7
    have c7b1 : decide (2147483647 < a1.size) = true := decide_eq_true (by omega)
    clear c7
    as_aux_lemma =>
     have H' := Aside0.mk H
     clear H
     go_wp2
     go_meet
     case rel => exact ⟨_, (true), (by first | rfl | (simp; done) | (simp [nil_ne_, nil_eq_]; done) | (simp [*]; done)), H', ⟨by first | omega | exact Nat.le_refl _⟩, ⟨by repeat (first | (with_reducible first | exact HB.out | apply below_alloc | apply pw_below_drewN | apply below_drew1) | exact HB.out)⟩⟩
   ·
    rw [if_neg c7] at H
    have c7b0 : decide (2147483647 < (a1.size : Int)) = false := decide_eq_false c7
    have c7b1 : decide (2147483647 < a1.size) = false := decide_eq_false (by omega)
    clear c7
    as_aux_lemma =>
     have H' := Aside0.mk H
     clear H
     go_wp2
     go_meet
     case rel => exact ⟨_, (decide ((a2.size : Int) > 2147483647)), (by first | rfl | (simp; done) | (simp [nil_ne_, nil_eq_]; done) | (simp [*]; done)), H', ⟨by first | omega | exact Nat.le_refl _⟩, ⟨by repeat (first | (with_reducible first | exact HB.out | apply below_alloc | apply pw_below_drewN | apply below_drew1) | exact HB.out)⟩⟩
 case rest =>
  clear HC5
  try clear p2
  try clear c6
  try clear c6b0
  try clear c6b1
  try clear c7
  try clear c7b0
  try clear c7b1
  obtain ⟨kq, x32_4, rfl, HA, HJ4, HB⟩ := hcut
  cases kq with
  | zero => exact absurd HA.out (by simp [laws_FnGjQueryParts.j0])
  | succ kj4 =>
   have H := HA.out
   clear HA
   simp only [laws_FnGjQueryParts.j0] at H
   by_cases c8 : x32_4 = true
   ·
    subst c8
    have H1 : (some true) = some r := by rw [if_pos rfl] at H; exact H
    clear H
    have H := H1
    clear H1
    as_aux_lemma =>
     obtain rfl := Option.some.inj H
     go_wp2
     go_ret
     exact ⟨by first | rfl | (simp [errW_none, errW_some] <;> rfl) | (simp [*, errW_none, errW_some] <;> rfl), by repeat (first | (with_reducible first | exact HB.out | apply below_alloc | apply pw_below_drewN | apply below_drew1) | exact HB.out)⟩
   ·
    replace c8 := Bool.eq_false_iff.mpr c8
    subst c8
    have H1 : (laws_FnGjQueryParts.l0 kj4 a0 a1 a2 a3 0) = some r := by rw [if_neg (show ¬ (false = true) by decide)] at H; exact H
    clear H
    have H := H1
    clear H1
    have H' := Aside0.mk H
    clear H
    go_wp2
    try simp only [Act.put, List.setIfInBounds_toArray, List.set_cons_succ, List.set_cons_zero]
    go_loopg [9] kj4 (fun kq v9 w' => ∃ (x9_2 : Int), v9 = .int .i64 x9_2 ∧ Aside0 (laws_FnGjQueryParts.l0 kq a0 a1 a2 a3 x9_2 = some r) ∧ Aside0 (kq ≤ kj4) ∧ Aside0 (Below w.heap.size w w'))
    case atStart => exact ⟨(0), (by first | rfl | (simp; done) | (simp [nil_ne_, nil_eq_]; done) | (simp [*]; done)), H', ⟨Nat.le_refl _⟩, ⟨by repeat (first | (with_reducible first | exact HB.out | apply below_alloc | apply pw_below_drewN | apply below_drew1) | exact HB.out)⟩⟩
    case round =>
     clear H'
     try clear p2
     try clear c6
     try clear c6b0
     try clear c6b1
     try clear c7
     try clear c7b0
     try clear c7b1
     try clear c8
     try clear p2
     obtain ⟨x9_2, rfl, HA, HK2, HB⟩ := hrel
     cases gk with
     | zero => exact absurd HA.out (by simp [laws_FnGjQueryParts.l0])
     | succ k2 =>
      have H := HA.out
      clear HA
      simp only [laws_FnGjQueryParts.l0] at H
      by_cases c9 : x9_2 < (a1.size : Int)
      ·
       rw [if_pos c9] at H
       have c9b0 : decide (x9_2 < (a1.size : Int)) = true := decide_eq_true c9
       clear c9
       by_cases c10 : 0 ≤ x9_2
       ·
        rw [if_pos c10] at H
        have c10b0 : decide (0 ≤ x9_2) = true := decide_eq_true c10
        clear c10
        by_cases c12 : (bt a1 x9_2) = 34
        ·
         rw [if_pos c12] at H
         have c12b0 : ((bt a1 x9_2) == 34) = true := beq_iff_eq.mpr c12
         have c12b1 : ((bt a1 x9_2) != 34) = false := bne_eq_false_iff_eq.mpr c12
         clear c12
         as_aux_lemma =>
          obtain rfl := Option.some.inj H
          have p11 : 0 ≤ (x9_2 : Int) := of_decide_eq_true (by first | (with_reducible assumption) | assumption)
          have q11 : x9_2 < (a1.size : Int) := of_decide_eq_true (by first | (with_reducible assumption) | assumption)
          have hx11 := bt_at a1 x9_2
          replace p11 := eq_true p11
          replace q11 := eq_true q11
          go_wp2
          go_ret
          exact ⟨by first | rfl | (simp [errW_none, errW_some] <;> rfl) | (simp [*, errW_none, errW_some] <;> rfl), by repeat (first | (with_reducible first | exact HB.out | apply below_alloc | apply pw_below_drewN | apply below_drew1) | exact HB.out)⟩
        ·
         rw [if_neg c12] at H
         have c12b0 : ((bt a1 x9_2) == 34) = false := beq_eq_false_iff_ne.mpr c12
         have c12b1 : ((bt a1 x9_2) != 34) = true := bne_iff_ne.mpr c12
         by_cases c14 : (bt a1 x9_2) = 92
         ·
          rw [if_pos c14] at H
          have c14b0 : ((bt a1 x9_2) == 92) = true := beq_iff_eq.mpr c14
          have c14b1 : ((bt a1 x9_2) != 92) = false := bne_eq_false_iff_eq.mpr c14
          clear c14
          as_aux_lemma =>
           obtain rfl := Option.some.inj H
           have p11 : 0 ≤ (x9_2 : Int) := of_decide_eq_true (by first | (with_reducible assumption) | assumption)
           have q11 : x9_2 < (a1.size : Int) := of_decide_eq_true (by first | (with_reducible assumption) | assumption)
           have hx11 := bt_at a1 x9_2
           replace p11 := eq_true p11
           replace q11 := eq_true q11
           have p13 : 0 ≤ (x9_2 : Int) := of_decide_eq_true (by first | (with_reducible assumption) | assumption)
           have q13 : x9_2 < (a1.size : Int) := of_decide_eq_true (by first | (with_reducible assumption) | assumption)
           have hx13 := bt_at a1 x9_2
           replace p13 := eq_true p13
           replace q13 := eq_true q13
           go_wp2
           go_ret
           exact ⟨by first | rfl | (simp [errW_none, errW_some] <;> rfl) | (simp [*, errW_none, errW_some] <;> rfl), by repeat (first | (with_reducible first | exact HB.out | apply below_alloc | apply pw_below_drewN | apply below_drew1) | exact HB.out)⟩
         ·
          rw [if_neg c14] at H
          have c14b0 : ((bt a1 x9_2) == 92) = false := beq_eq_false_iff_ne.mpr c14
          have c14b1 : ((bt a1 x9_2) != 92) = true := bne_iff_ne.mpr c14
          as_aux_lemma =>
           have H' := Aside0.mk H
           clear H
           have p11 : 0 ≤ (x9_2 : Int) := of_decide_eq_true (by first | (with_reducible assumption) | assumption)
           have q11 : x9_2 < (a1.size : Int) := of_decide_eq_true (by first | (with_reducible assumption) | assumption)
           have hx11 := bt_at a1 x9_2
           replace p11 := eq_true p11
           replace q11 := eq_true q11
           have p13 : 0 ≤ (x9_2 : Int) := of_decide_eq_true (by first | (with_reducible assumption) | assumption)
           have q13 : x9_2 < (a1.size : Int) := of_decide_eq_true (by first | (with_reducible assumption) | assumption)
           have hx13 := bt_at a1 x9_2
           replace p13 := eq_true p13
           replace q13 := eq_true q13
           go_wp2
           go_roundg k2
           case measure => have := HJ4.out; have := HK2.out; omega
           case rel => exact ⟨(wrap64 (x9_2 + 1)), (by first | rfl | (simp; done) | (simp [nil_ne_, nil_eq_]; done) | (simp [*]; done)), H', ⟨by have := HJ4.out; have := HK2.out; omega⟩, ⟨by repeat (first | (with_reducible first | exact HB.out | apply below_alloc | apply pw_below_drewN | apply below_drew1) | exact HB.out)⟩⟩
       ·
        rw [if_neg c10] at H
        exact absurd H (by simp)
      ·
       rw [if_neg c9] at H
       have c9b0 : decide (x9_2 < (a1.size : Int)) = false := decide_eq_false c9
       clear c9
       have HC15 := Aside0.mk H
       clear H
       go_upto_region 8 with (fail)
       go_cut [62] (fun v62 wc => ∃ (kq : Nat) (x62_14 : Bool), v62 = .bool x62_14 ∧ Aside0 (laws_FnGjQueryParts.j2 kq a0 a1 a2 a3 x62_14 = some r) ∧ Aside0 (kq ≤ k2) ∧ Aside0 (Below w.heap.size w wc))
       case first =>
        have H := HC15.out
        clear HC15
        replace H := Option.bind_eq_some_iff.mp H
        obtain ⟨t129, A160, H⟩ := H
        replace H : (if t129 = true then (laws_FnGjQueryParts.j2 k2 a0 a1 a2 a3 (decide ((wrap64 ((wrap64 ((a0.size : Int) + (a1.size : Int))) + (a2.size : Int))) > 4096))) else (laws_FnGjQueryParts.j2 k2 a0 a1 a2 a3 true)) = some r := H
        have A16 := Aside0.mk A160
        clear A160
        by_cases c17 : t129 = true
        ·
         subst c17
         have H1 : (laws_FnGjQueryParts.j2 k2 a0 a1 a2 a3 (decide ((wrap64 ((wrap64 ((a0.size : Int) + (a1.size : Int))) + (a2.size : Int))) > 4096))) = some r := by rw [if_pos rfl] at H; exact H
         clear H
         have H := H1
         clear H1
         as_aux_lemma =>
          have H' := Aside0.mk H
          clear H
          go_wp2_with (first | ((with_reducible refine gate_callee (f := 19) rfl ?_); refine goesL_ (some 50) rfl rfl Try.func19 (by kernel_rfl) rfl #[.string a0] rfl (by (try simp only [List.map_toArray, List.map_cons, List.map_nil]); first | done | rfl | (simp only [List.length_drop, List.length_take]; rfl)) ?_; (with_reducible refine (laws_gjWord.calls k2 a0 true _ A16.out).mono ?_); rintro e w' ⟨rfl, ⟨nd, rfl⟩⟩; refine ⟨_, rfl, ?_⟩))
          go_meet
          case rel => exact ⟨_, (decide ((wrap64 ((wrap64 ((a0.size : Int) + (a1.size : Int))) + (a2.size : Int))) > 4096)), (by first | rfl | (simp; done) | (simp [nil_ne_, nil_eq_]; done) | (simp [*]; done)), H', ⟨by have := HJ4.out; have := HK2.out; first | omega | exact Nat.le_refl _⟩, ⟨by repeat (first | (with_reducible first | exact HB.out | apply below_alloc | apply pw_below_drewN | apply below_drew1) | exact HB.out)⟩⟩
        ·
         replace c17 := Bool.eq_false_iff.mpr c17
         subst c17
         have H1 : (laws_FnGjQueryParts.j2 k2 a0 a1 a2 a3 true) = some r := by rw [if_neg (show ¬ (false = true) by decide)] at H; exact H
         clear H
         have H := H1
         clear H1
         as_aux_lemma =>
          have H' := Aside0.mk H
          clear H
          go_wp2_with (first | ((with_reducible refine gate_callee (f := 19) rfl ?_); refine goesL_ (some 50) rfl rfl Try.func19 (by kernel_rfl) rfl #[.string a0] rfl (by (try simp only [List.map_toArray, List.map_cons, List.map_nil]); first | done | rfl | (simp only [List.length_drop, List.length_take]; rfl)) ?_; (with_reducible refine (laws_gjWord.calls k2 a0 false _ A16.out).mono ?_); rintro e w' ⟨rfl, ⟨nd, rfl⟩⟩; refine ⟨_, rfl, ?_⟩))
          go_meet
          case rel => exact ⟨_, (true), (by first | rfl | (simp; done) | (simp [nil_ne_, nil_eq_]; done) | (simp [*]; done)), H', ⟨by have := HJ4.out; have := HK2.out; first | omega | exact Nat.le_refl _⟩, ⟨by repeat (first | (with_reducible first | exact HB.out | apply below_alloc | apply pw_below_drewN | apply below_drew1) | exact HB.out)⟩⟩
       case rest =>
        clear HC15
        try clear c1
        try clear p1
        try clear q1
        try clear hx1
        try clear p2
        try clear c6
        try clear c6b0
        try clear c6b1
        try clear p6
        try clear c7
        try clear c7b0
        try clear c7b1
        try clear c8
        try clear c9
        try clear c9b0
        try clear c10
        try clear c10b0
        try clear p11
        try clear q11
        try clear hx11
        try clear c12
        try clear c12b0
        try clear c12b1
        try clear p13
        try clear q13
        try clear hx13
        try clear c14
        try clear c14b0
        try clear c14b1
        try clear c17
        try clear p11
        try clear p13
        try clear p2
        try clear q11
        try clear q13
        obtain ⟨kq, x62_14, rfl, HA, HJ14, HB⟩ := hcut
        cases kq with
        | zero => exact absurd HA.out (by simp [laws_FnGjQueryParts.j2])
        | succ kj14 =>
         have H := HA.out
         clear HA
         simp only [laws_FnGjQueryParts.j2] at H
         by_cases c18 : x62_14 = true
         ·
          subst c18
          have H1 : (some true) = some r := by rw [if_pos rfl] at H; exact H
          clear H
          have H := H1
          clear H1
          as_aux_lemma =>
           obtain rfl := Option.some.inj H
           go_wp2
           go_ret
           exact ⟨by first | rfl | (simp [errW_none, errW_some] <;> rfl) | (simp [*, errW_none, errW_some] <;> rfl), by repeat (first | (with_reducible first | exact HB.out | apply below_alloc | apply pw_below_drewN | apply below_drew1) | exact HB.out)⟩
         ·
          replace c18 := Bool.eq_false_iff.mpr c18
          subst c18
          have H1 : ((laws_gjOp.f a3).bind fun t130 => (if 1 + a1.size ≤ 9223372036854775807 then (if ((⟨#[34]⟩ : ByteArray) ++ a1).size + 1 ≤ 9223372036854775807 then (if 2 + a0.size ≤ 9223372036854775807 then (if ((⟨#[35, 40]⟩ : ByteArray) ++ a0).size + t130.size ≤ 9223372036854775807 then (if (((⟨#[35, 40]⟩ : ByteArray) ++ a0) ++ t130).size + (((⟨#[34]⟩ : ByteArray) ++ a1) ++ (⟨#[34]⟩ : ByteArray)).size ≤ 9223372036854775807 then (if ((((⟨#[35, 40]⟩ : ByteArray) ++ a0) ++ t130) ++ (((⟨#[34]⟩ : ByteArray) ++ a1) ++ (⟨#[34]⟩ : ByteArray))).size + 1 ≤ 9223372036854775807 then (if (((((⟨#[35, 40]⟩ : ByteArray) ++ a0) ++ t130) ++ (((⟨#[34]⟩ : ByteArray) ++ a1) ++ (⟨#[34]⟩ : ByteArray))) ++ (⟨#[41]⟩ : ByteArray)).size + a2.size ≤ 9223372036854775807 then ((impl_GjQuery.f kj14 ((((((⟨#[35, 40]⟩ : ByteArray) ++ a0) ++ t130) ++ (((⟨#[34]⟩ : ByteArray) ++ a1) ++ (⟨#[34]⟩ : ByteArray))) ++ (⟨#[41]⟩ : ByteArray)) ++ a2)).bind fun bt131 => (if t130.toList = ([61, 61] : List UInt8) then (if bt131.2.2.2.2.2.2 = true then (if bt131.1.toList = a0.toList then (if bt131.2.1.toList = ([61] : List UInt8) then (if bt131.2.2.1.toList = (((⟨#[34]⟩ : ByteArray) ++ a1) ++ (⟨#[34]⟩ : ByteArray)).toList then (if bt131.2.2.2.1.toList = a2.toList then (if bt131.2.2.2.2.1 = ((((((⟨#[35, 40]⟩ : ByteArray) ++ a0) ++ t130) ++ (((⟨#[34]⟩ : ByteArray) ++ a1) ++ (⟨#[34]⟩ : ByteArray))) ++ (⟨#[41]⟩ : ByteArray)).size : Int) then (some (!bt131.2.2.2.2.2.1)) else (some false)) else (some false)) else (some false)) else (some false)) else (some false)) else (some false)) else (if bt131.2.2.2.2.2.2 = true then (if bt131.1.toList = a0.toList then (if bt131.2.1.toList = t130.toList then (if bt131.2.2.1.toList = (((⟨#[34]⟩ : ByteArray) ++ a1) ++ (⟨#[34]⟩ : ByteArray)).toList then (if bt131.2.2.2.1.toList = a2.toList then (if bt131.2.2.2.2.1 = ((((((⟨#[35, 40]⟩ : ByteArray) ++ a0) ++ t130) ++ (((⟨#[34]⟩ : ByteArray) ++ a1) ++ (⟨#[34]⟩ : ByteArray))) ++ (⟨#[41]⟩ : ByteArray)).size : Int) then (some (!bt131.2.2.2.2.2.1)) else (some false)) else (some false)) else (some false)) else (some false)) else (some false)) else (some false)))) else (none)) else (none)) else (none)) else (none)) else (none)) else (none)) else (none))) = some r := by rw [if_neg (show ¬ (false = true) by decide)] at H; exact H
          clear H
          have H := H1
          clear H1
          replace H := Option.bind_eq_some_iff.mp H
          obtain ⟨t130, A190, H⟩ := H
          replace H : (if 1 + a1.size ≤ 9223372036854775807 then (if ((⟨#[34]⟩ : ByteArray) ++ a1).size + 1 ≤ 9223372036854775807 then (if 2 + a0.size ≤ 9223372036854775807 then (if ((⟨#[35, 40]⟩ : ByteArray) ++ a0).size + t130.size ≤ 9223372036854775807 then (if (((⟨#[35, 40]⟩ : ByteArray) ++ a0) ++ t130).size + (((⟨#[34]⟩ : ByteArray) ++ a1) ++ (⟨#[34]⟩ : ByteArray)).size ≤ 9223372036854775807 then (if ((((⟨#[35, 40]⟩ : ByteArray) ++ a0) ++ t130) ++ (((⟨#[34]⟩ : ByteArray) ++ a1) ++ (⟨#[34]⟩ : ByteArray))).size + 1 ≤ 9223372036854775807 then (if (((((⟨#[35, 40]⟩ : ByteArray) ++ a0) ++ t130) ++ (((⟨#[34]⟩ : ByteArray) ++ a1) ++ (⟨#[34]⟩ : ByteArray))) ++ (⟨#[41]⟩ : ByteArray)).size + a2.size ≤ 9223372036854775807 then ((impl_GjQuery.f kj14 ((((((⟨#[35, 40]⟩ : ByteArray) ++ a0) ++ t130) ++ (((⟨#[34]⟩ : ByteArray) ++ a1) ++ (⟨#[34]⟩ : ByteArray))) ++ (⟨#[41]⟩ : ByteArray)) ++ a2)).bind fun bt131 => (if t130.toList = ([61, 61] : List UInt8) then (if bt131.2.2.2.2.2.2 = true then (if bt131.1.toList = a0.toList then (if bt131.2.1.toList = ([61] : List UInt8) then (if bt131.2.2.1.toList = (((⟨#[34]⟩ : ByteArray) ++ a1) ++ (⟨#[34]⟩ : ByteArray)).toList then (if bt131.2.2.2.1.toList = a2.toList then (if bt131.2.2.2.2.1 = ((((((⟨#[35, 40]⟩ : ByteArray) ++ a0) ++ t130) ++ (((⟨#[34]⟩ : ByteArray) ++ a1) ++ (⟨#[34]⟩ : ByteArray))) ++ (⟨#[41]⟩ : ByteArray)).size : Int) then (some (!bt131.2.2.2.2.2.1)) else (some false)) else (some false)) else (some false)) else (some false)) else (some false)) else (some false)) else (if bt131.2.2.2.2.2.2 = true then (if bt131.1.toList = a0.toList then (if bt131.2.1.toList = t130.toList then (if bt131.2.2.1.toList = (((⟨#[34]⟩ : ByteArray) ++ a1) ++ (⟨#[34]⟩ : ByteArray)).toList then (if bt131.2.2.2.1.toList = a2.toList then (if bt131.2.2.2.2.1 = ((((((⟨#[35, 40]⟩ : ByteArray) ++ a0) ++ t130) ++ (((⟨#[34]⟩ : ByteArray) ++ a1) ++ (⟨#[34]⟩ : ByteArray))) ++ (⟨#[41]⟩ : ByteArray)).size : Int) then (some (!bt131.2.2.2.2.2.1)) else (some false)) else (some false)) else (some false)) else (some false)) else (some false)) else (some false)))) else (none)) else (none)) else (none)) else (none)) else (none)) else (none)) else (none)) = some r := H
          have A19 := Aside0.mk A190
          clear A190
          by_cases c20 : 1 + a1.size ≤ 9223372036854775807
          ·
           rw [if_pos c20] at H
           have c20b0 := eq_true c20
           have c20b1 : decide (1 + a1.size ≤ 9223372036854775807) = true := decide_eq_true c20
           try have c20b2 : (9223372036854775807 < 1 + a1.size) = False := eq_false (Nat.not_lt.2 c20)
           by_cases c21 : ((⟨#[34]⟩ : ByteArray) ++ a1).size + 1 ≤ 9223372036854775807
           ·
            rw [if_pos c21] at H
            have c21b0 := eq_true c21
            have c21b1 : decide (((⟨#[34]⟩ : ByteArray) ++ a1).size + 1 ≤ 9223372036854775807) = true := decide_eq_true c21
            try have c21b2 : (9223372036854775807 < ((⟨#[34]⟩ : ByteArray) ++ a1).size + 1) = False := eq_false (Nat.not_lt.2 c21)
            try (have c21b3 := c21b2; simp only [ByteArray.size_append, sz_mk, List.size_toArray, List.length_cons, List.length_nil, Nat.reduceAdd, Nat.zero_add] at c21b3)
            by_cases c22 : 2 + a0.size ≤ 9223372036854775807
            ·
             rw [if_pos c22] at H
             have c22b0 := eq_true c22
             have c22b1 : decide (2 + a0.size ≤ 9223372036854775807) = true := decide_eq_true c22
             try have c22b2 : (9223372036854775807 < 2 + a0.size) = False := eq_false (Nat.not_lt.2 c22)
             by_cases c23 : ((⟨#[35, 40]⟩ : ByteArray) ++ a0).size + t130.size ≤ 9223372036854775807
             ·
              rw [if_pos c23] at H
              have c23b0 := eq_true c23
              have c23b1 : decide (((⟨#[35, 40]⟩ : ByteArray) ++ a0).size + t130.size ≤ 9223372036854775807) = true := decide_eq_true c23
              try have c23b2 : (9223372036854775807 < ((⟨#[35, 40]⟩ : ByteArray) ++ a0).size + t130.size) = False := eq_false (Nat.not_lt.2 c23)
              try (have c23b3 := c23b2; simp only [ByteArray.size_append, sz_mk, List.size_toArray, List.length_cons, List.length_nil, Nat.reduceAdd, Nat.zero_add] at c23b3)
              by_cases c24 : (((⟨#[35, 40]⟩ : ByteArray) ++ a0) ++ t130).size + (((⟨#[34]⟩ : ByteArray) ++ a1) ++ (⟨#[34]⟩ : ByteArray)).size ≤ 9223372036854775807
              ·
               rw [if_pos c24] at H
               have c24b0 := eq_true c24
               have c24b1 : decide ((((⟨#[35, 40]⟩ : ByteArray) ++ a0) ++ t130).size + (((⟨#[34]⟩ : ByteArray) ++ a1) ++ (⟨#[34]⟩ : ByteArray)).size ≤ 9223372036854775807) = true := decide_eq_true c24
               try have c24b2 : (9223372036854775807 < (((⟨#[35, 40]⟩ : ByteArray) ++ a0) ++ t130).size + (((⟨#[34]⟩ : ByteArray) ++ a1) ++ (⟨#[34]⟩ : ByteArray)).size) = False := eq_false (Nat.not_lt.2 c24)
               try (have c24b3 := c24b2; simp only [ByteArray.size_append, sz_mk, List.size_toArray, List.length_cons, List.length_nil, Nat.reduceAdd, Nat.zero_add] at c24b3)
               by_cases c25 : ((((⟨#[35, 40]⟩ : ByteArray) ++ a0) ++ t130) ++ (((⟨#[34]⟩ : ByteArray) ++ a1) ++ (⟨#[34]⟩ : ByteArray))).size + 1 ≤ 9223372036854775807
               ·
                rw [if_pos c25] at H
                have c25b0 := eq_true c25
                have c25b1 : decide (((((⟨#[35, 40]⟩ : ByteArray) ++ a0) ++ t130) ++ (((⟨#[34]⟩ : ByteArray) ++ a1) ++ (⟨#[34]⟩ : ByteArray))).size + 1 ≤ 9223372036854775807) = true := decide_eq_true c25
                try have c25b2 : (9223372036854775807 < ((((⟨#[35, 40]⟩ : ByteArray) ++ a0) ++ t130) ++ (((⟨#[34]⟩ : ByteArray) ++ a1) ++ (⟨#[34]⟩ : ByteArray))).size + 1) = False := eq_false (Nat.not_lt.2 c25)
                try (have c25b3 := c25b2; simp only [ByteArray.size_append, sz_mk, List.size_toArray, List.length_cons, List.length_nil, Nat.reduceAdd, Nat.zero_add] at c25b3)
                by_cases c26 : (((((⟨#[35, 40]⟩ : ByteArray) ++ a0) ++ t130) ++ (((⟨#[34]⟩ : ByteArray) ++ a1) ++ (⟨#[34]⟩ : ByteArray))) ++ (⟨#[41]⟩ : ByteArray)).size + a2.size ≤ 9223372036854775807
                ·
                 rw [if_pos c26] at H
                 have c26b0 := eq_true c26
                 have c26b1 : decide ((((((⟨#[35, 40]⟩ : ByteArray) ++ a0) ++ t130) ++ (((⟨#[34]⟩ : ByteArray) ++ a1) ++ (⟨#[34]⟩ : ByteArray))) ++ (⟨#[41]⟩ : ByteArray)).size + a2.size ≤ 9223372036854775807) = true := decide_eq_true c26
                 try have c26b2 : (9223372036854775807 < (((((⟨#[35, 40]⟩ : ByteArray) ++ a0) ++ t130) ++ (((⟨#[34]⟩ : ByteArray) ++ a1) ++ (⟨#[34]⟩ : ByteArray))) ++ (⟨#[41]⟩ : ByteArray)).size + a2.size) = False := eq_false (Nat.not_lt.2 c26)
                 try (have c26b3 := c26b2; simp only [ByteArray.size_append, sz_mk, List.size_toArray, List.length_cons, List.length_nil, Nat.reduceAdd, Nat.zero_add] at c26b3)
                 replace H := Option.bind_eq_some_iff.mp H
                 obtain ⟨⟨t131, t132, t133, t134, t135, t136, t137⟩, A270, H⟩ := H
                 replace H : (if t130.toList = ([61, 61] : List UInt8) then (if t137 = true then (if t131.toList = a0.toList then (if t132.toList = ([61] : List UInt8) then (if t133.toList = (((⟨#[34]⟩ : ByteArray) ++ a1) ++ (⟨#[34]⟩ : ByteArray)).toList then (if t134.toList = a2.toList then (if t135 = ((((((⟨#[35, 40]⟩ : ByteArray) ++ a0) ++ t130) ++ (((⟨#[34]⟩ : ByteArray) ++ a1) ++ (⟨#[34]⟩ : ByteArray))) ++ (⟨#[41]⟩ : ByteArray)).size : Int) then (some (!t136)) else (some false)) else (some false)) else (some false)) else (some false)) else (some false)) else (some false)) else (if t137 = true then (if t131.toList = a0.toList then (if t132.toList = t130.toList then (if t133.toList = (((⟨#[34]⟩ : ByteArray) ++ a1) ++ (⟨#[34]⟩ : ByteArray)).toList then (if t134.toList = a2.toList then (if t135 = ((((((⟨#[35, 40]⟩ : ByteArray) ++ a0) ++ t130) ++ (((⟨#[34]⟩ : ByteArray) ++ a1) ++ (⟨#[34]⟩ : ByteArray))) ++ (⟨#[41]⟩ : ByteArray)).size : Int) then (some (!t136)) else (some false)) else (some false)) else (some false)) else (some false)) else (some false)) else (some false))) = some r := H
                 have A27 := Aside0.mk A270
                 clear A270
                 by_cases c28 : t130.toList = ([61, 61] : List UInt8)
                 ·
                  rw [if_pos c28] at H
                  have c28b0 : (t130.toList == ([61, 61] : List UInt8)) = true := beq_iff_eq.mpr c28
                  have c28b1 : (t130.toList != ([61, 61] : List UInt8)) = false := bne_eq_false_iff_eq.mpr c28
                  clear c28
                  by_cases c29 : t137 = true
                  ·
                   subst c29
                   have H1 : (if t131.toList = a0.toList then (if t132.toList = ([61] : List UInt8) then (if t133.toList = (((⟨#[34]⟩ : ByteArray) ++ a1) ++ (⟨#[34]⟩ : ByteArray)).toList then (if t134.toList = a2.toList then (if t135 = ((((((⟨#[35, 40]⟩ : ByteArray) ++ a0) ++ t130) ++ (((⟨#[34]⟩ : ByteArray) ++ a1) ++ (⟨#[34]⟩ : ByteArray))) ++ (⟨#[41]⟩ : ByteArray)).size : Int) then (some (!t136)) else (some false)) else (some false)) else (some false)) else (some false)) else (some false)) = some r := by rw [if_pos rfl] at H; exact H
                   clear H
                   have H := H1
                   clear H1
                   by_cases c30 : t131.toList = a0.toList
                   ·
                    rw [if_pos c30] at H
                    have c30b0 : (t131.toList == a0.toList) = true := beq_iff_eq.mpr c30
                    have c30b1 : (t131.toList != a0.toList) = false := bne_eq_false_iff_eq.mpr c30
                    clear c30
                    by_cases c31 : t132.toList = ([61] : List UInt8)
                    ·
                     rw [if_pos c31] at H
                     have c31b0 : (t132.toList == ([61] : List UInt8)) = true := beq_iff_eq.mpr c31
                     have c31b1 : (t132.toList != ([61] : List UInt8)) = false := bne_eq_false_iff_eq.mpr c31
                     clear c31
                     by_cases c32 : t133.toList = (((⟨#[34]⟩ : ByteArray) ++ a1) ++ (⟨#[34]⟩ : ByteArray)).toList
                     ·
                      rw [if_pos c32] at H
                      have c32b0 : (t133.toList == (((⟨#[34]⟩ : ByteArray) ++ a1) ++ (⟨#[34]⟩ : ByteArray)).toList) = true := beq_iff_eq.mpr c32
                      have c32b1 : (t133.toList != (((⟨#[34]⟩ : ByteArray) ++ a1) ++ (⟨#[34]⟩ : ByteArray)).toList) = false := bne_eq_false_iff_eq.mpr c32
                      clear c32
                      by_cases c33 : t134.toList = a2.toList
                      ·
                       rw [if_pos c33] at H
                       have c33b0 : (t134.toList == a2.toList) = true := beq_iff_eq.mpr c33
                       have c33b1 : (t134.toList != a2.toList) = false := bne_eq_false_iff_eq.mpr c33
                       clear c33
                       by_cases c34 : t135 = ((((((⟨#[35, 40]⟩ : ByteArray) ++ a0) ++ t130) ++ (((⟨#[34]⟩ : ByteArray) ++ a1) ++ (⟨#[34]⟩ : ByteArray))) ++ (⟨#[41]⟩ : ByteArray)).size : Int)
                       ·
                        rw [if_pos c34] at H
                        have c34b0 : (t135 == ((((((⟨#[35, 40]⟩ : ByteArray) ++ a0) ++ t130) ++ (((⟨#[34]⟩ : ByteArray) ++ a1) ++ (⟨#[34]⟩ : ByteArray))) ++ (⟨#[41]⟩ : ByteArray)).size : Int)) = true := beq_iff_eq.mpr c34
                        have c34b1 : (t135 != ((((((⟨#[35, 40]⟩ : ByteArray) ++ a0) ++ t130) ++ (((⟨#[34]⟩ : ByteArray) ++ a1) ++ (⟨#[34]⟩ : ByteArray))) ++ (⟨#[41]⟩ : ByteArray)).size : Int)) = false := bne_eq_false_iff_eq.mpr c34
                        try (have c34b09 := c34b0; simp only [ByteArray.size_append, sz_mk, List.size_toArray, List.length_cons, List.length_nil, Nat.reduceAdd, Nat.zero_add] at c34b09; push_cast at c34b09)
                        try (have c34b19 := c34b1; simp only [ByteArray.size_append, sz_mk, List.size_toArray, List.length_cons, List.length_nil, Nat.reduceAdd, Nat.zero_add] at c34b19; push_cast at c34b19)
                        clear c34
                        as_aux_lemma =>
                         obtain rfl := Option.some.inj H
                         go_wp2_with (first | ((with_reducible refine gate_callee (f := 20) rfl ?_); refine goesL_ (some 64) rfl rfl Try.func20 (by kernel_rfl) rfl #[.int .i64 a3] rfl (by (try simp only [List.map_toArray, List.map_cons, List.map_nil]); first | done | rfl | (simp only [List.length_drop, List.length_take]; rfl)) ?_; (with_reducible refine (laws_gjOp.calls a3 t130 _ A19.out).mono ?_); rintro e w35 ⟨rfl, hb⟩; refine ⟨_, rfl, ?_⟩; have n0_ := Aside0.mk (below_step (by repeat (first | (with_reducible first | exact HB.out | apply below_alloc | apply pw_below_drewN | apply below_drew1) | exact HB.out)) hb); clear HB; have HB := n0_; clear n0_; (try clear hb); (try clear hb2); (try clear hk); (try clear hi)) | ((with_reducible refine gate_callee (f := 21) rfl ?_); refine goesL_ (some 79) rfl rfl Try.func21 (by kernel_rfl) rfl #[.string ((((((⟨#[35, 40]⟩ : ByteArray) ++ a0) ++ t130) ++ (((⟨#[34]⟩ : ByteArray) ++ a1) ++ (⟨#[34]⟩ : ByteArray))) ++ (⟨#[41]⟩ : ByteArray)) ++ a2)] rfl (by (try simp only [List.map_toArray, List.map_cons, List.map_nil]); first | done | rfl | (simp only [List.length_drop, List.length_take]; rfl)) ?_; (with_reducible refine (impl_GjQuery.calls kj14 ((((((⟨#[35, 40]⟩ : ByteArray) ++ a0) ++ t130) ++ (((⟨#[34]⟩ : ByteArray) ++ a1) ++ (⟨#[34]⟩ : ByteArray))) ++ (⟨#[41]⟩ : ByteArray)) ++ a2) t131 t132 t133 t134 t135 t136 true _ A27.out).mono ?_); rintro e w' ⟨rfl, ⟨nd, rfl⟩⟩; refine ⟨_, rfl, ?_⟩))
                         go_ret
                         exact ⟨by first | rfl | (simp [errW_none, errW_some] <;> rfl) | (simp [*, errW_none, errW_some] <;> rfl), by repeat (first | (with_reducible first | exact HB.out | apply below_alloc | apply pw_below_drewN | apply below_drew1) | exact HB.out)⟩
                       ·
                        rw [if_neg c34] at H
                        have c34b0 : (t135 == ((((((⟨#[35, 40]⟩ : ByteArray) ++ a0) ++ t130) ++ (((⟨#[34]⟩ : ByteArray) ++ a1) ++ (⟨#[34]⟩ : ByteArray))) ++ (⟨#[41]⟩ : ByteArray)).size : Int)) = false := beq_eq_false_iff_ne.mpr c34
                        have c34b1 : (t135 != ((((((⟨#[35, 40]⟩ : ByteArray) ++ a0) ++ t130) ++ (((⟨#[34]⟩ : ByteArray) ++ a1) ++ (⟨#[34]⟩ : ByteArray))) ++ (⟨#[41]⟩ : ByteArray)).size : Int)) = true := bne_iff_ne.mpr c34
                        try (have c34b09 := c34b0; simp only [ByteArray.size_append, sz_mk, List.size_toArray, List.length_cons, List.length_nil, Nat.reduceAdd, Nat.zero_add] at c34b09; push_cast at c34b09)
                        try (have c34b19 := c34b1; simp only [ByteArray.size_append, sz_mk, List.size_toArray, List.length_cons, List.length_nil, Nat.reduceAdd, Nat.zero_add] at c34b19; push_cast at c34b19)
                        as_aux_lemma =>
                         obtain rfl := Option.some.inj H
                         go_wp2_with (first | ((with_reducible refine gate_callee (f := 20) rfl ?_); refine goesL_ (some 64) rfl rfl Try.func20 (by kernel_rfl) rfl #[.int .i64 a3] rfl (by (try simp only [List.map_toArray, List.map_cons, List.map_nil]); first | done | rfl | (simp only [List.length_drop, List.length_take]; rfl)) ?_; (with_reducible refine (laws_gjOp.calls a3 t130 _ A19.out).mono ?_); rintro e w36 ⟨rfl, hb⟩; refine ⟨_, rfl, ?_⟩; have n0_ := Aside0.mk (below_step (by repeat (first | (with_reducible first | exact HB.out | apply below_alloc | apply pw_below_drewN | apply below_drew1) | exact HB.out)) hb); clear HB; have HB := n0_; clear n0_; (try clear hb); (try clear hb2); (try clear hk); (try clear hi)) | ((with_reducible refine gate_callee (f := 21) rfl ?_); refine goesL_ (some 79) rfl rfl Try.func21 (by kernel_rfl) rfl #[.string ((((((⟨#[35, 40]⟩ : ByteArray) ++ a0) ++ t130) ++ (((⟨#[34]⟩ : ByteArray) ++ a1) ++ (⟨#[34]⟩ : ByteArray))) ++ (⟨#[41]⟩ : ByteArray)) ++ a2)] rfl (by (try simp only [List.map_toArray, List.map_cons, List.map_nil]); first | done | rfl | (simp only [List.length_drop, List.length_take]; rfl)) ?_; (with_reducible refine (impl_GjQuery.calls kj14 ((((((⟨#[35, 40]⟩ : ByteArray) ++ a0) ++ t130) ++ (((⟨#[34]⟩ : ByteArray) ++ a1) ++ (⟨#[34]⟩ : ByteArray))) ++ (⟨#[41]⟩ : ByteArray)) ++ a2) t131 t132 t133 t134 t135 t136 true _ A27.out).mono ?_); rintro e w' ⟨rfl, ⟨nd, rfl⟩⟩; refine ⟨_, rfl, ?_⟩))
                         go_ret
                         exact ⟨by first | rfl | (simp [errW_none, errW_some] <;> rfl) | (simp [*, errW_none, errW_some] <;> rfl), by repeat (first | (with_reducible first | exact HB.out | apply below_alloc | apply pw_below_drewN | apply below_drew1) | exact HB.out)⟩
                      ·
                       rw [if_neg c33] at H
                       have c33b0 : (t134.toList == a2.toList) = false := beq_eq_false_iff_ne.mpr c33
                       have c33b1 : (t134.toList != a2.toList) = true := bne_iff_ne.mpr c33
                       as_aux_lemma =>
                        obtain rfl := Option.some.inj H
                        go_wp2_with (first | ((with_reducible refine gate_callee (f := 20) rfl ?_); refine goesL_ (some 64) rfl rfl Try.func20 (by kernel_rfl) rfl #[.int .i64 a3] rfl (by (try simp only [List.map_toArray, List.map_cons, List.map_nil]); first | done | rfl | (simp only [List.length_drop, List.length_take]; rfl)) ?_; (with_reducible refine (laws_gjOp.calls a3 t130 _ A19.out).mono ?_); rintro e w37 ⟨rfl, hb⟩; refine ⟨_, rfl, ?_⟩; have n0_ := Aside0.mk (below_step (by repeat (first | (with_reducible first | exact HB.out | apply below_alloc | apply pw_below_drewN | apply below_drew1) | exact HB.out)) hb); clear HB; have HB := n0_; clear n0_; (try clear hb); (try clear hb2); (try clear hk); (try clear hi)) | ((with_reducible refine gate_callee (f := 21) rfl ?_); refine goesL_ (some 79) rfl rfl Try.func21 (by kernel_rfl) rfl #[.string ((((((⟨#[35, 40]⟩ : ByteArray) ++ a0) ++ t130) ++ (((⟨#[34]⟩ : ByteArray) ++ a1) ++ (⟨#[34]⟩ : ByteArray))) ++ (⟨#[41]⟩ : ByteArray)) ++ a2)] rfl (by (try simp only [List.map_toArray, List.map_cons, List.map_nil]); first | done | rfl | (simp only [List.length_drop, List.length_take]; rfl)) ?_; (with_reducible refine (impl_GjQuery.calls kj14 ((((((⟨#[35, 40]⟩ : ByteArray) ++ a0) ++ t130) ++ (((⟨#[34]⟩ : ByteArray) ++ a1) ++ (⟨#[34]⟩ : ByteArray))) ++ (⟨#[41]⟩ : ByteArray)) ++ a2) t131 t132 t133 t134 t135 t136 true _ A27.out).mono ?_); rintro e w' ⟨rfl, ⟨nd, rfl⟩⟩; refine ⟨_, rfl, ?_⟩))
                        go_ret
                        exact ⟨by first | rfl | (simp [errW_none, errW_some] <;> rfl) | (simp [*, errW_none, errW_some] <;> rfl), by repeat (first | (with_reducible first | exact HB.out | apply below_alloc | apply pw_below_drewN | apply below_drew1) | exact HB.out)⟩
                     ·
                      rw [if_neg c32] at H
                      have c32b0 : (t133.toList == (((⟨#[34]⟩ : ByteArray) ++ a1) ++ (⟨#[34]⟩ : ByteArray)).toList) = false := beq_eq_false_iff_ne.mpr c32
                      have c32b1 : (t133.toList != (((⟨#[34]⟩ : ByteArray) ++ a1) ++ (⟨#[34]⟩ : ByteArray)).toList) = true := bne_iff_ne.mpr c32
                      as_aux_lemma =>
                       obtain rfl := Option.some.inj H
                       go_wp2_with (first | ((with_reducible refine gate_callee (f := 20) rfl ?_); refine goesL_ (some 64) rfl rfl Try.func20 (by kernel_rfl) rfl #[.int .i64 a3] rfl (by (try simp only [List.map_toArray, List.map_cons, List.map_nil]); first | done | rfl | (simp only [List.length_drop, List.length_take]; rfl)) ?_; (with_reducible refine (laws_gjOp.calls a3 t130 _ A19.out).mono ?_); rintro e w38 ⟨rfl, hb⟩; refine ⟨_, rfl, ?_⟩; have n0_ := Aside0.mk (below_step (by repeat (first | (with_reducible first | exact HB.out | apply below_alloc | apply pw_below_drewN | apply below_drew1) | exact HB.out)) hb); clear HB; have HB := n0_; clear n0_; (try clear hb); (try clear hb2); (try clear hk); (try clear hi)) | ((with_reducible refine gate_callee (f := 21) rfl ?_); refine goesL_ (some 79) rfl rfl Try.func21 (by kernel_rfl) rfl #[.string ((((((⟨#[35, 40]⟩ : ByteArray) ++ a0) ++ t130) ++ (((⟨#[34]⟩ : ByteArray) ++ a1) ++ (⟨#[34]⟩ : ByteArray))) ++ (⟨#[41]⟩ : ByteArray)) ++ a2)] rfl (by (try simp only [List.map_toArray, List.map_cons, List.map_nil]); first | done | rfl | (simp only [List.length_drop, List.length_take]; rfl)) ?_; (with_reducible refine (impl_GjQuery.calls kj14 ((((((⟨#[35, 40]⟩ : ByteArray) ++ a0) ++ t130) ++ (((⟨#[34]⟩ : ByteArray) ++ a1) ++ (⟨#[34]⟩ : ByteArray))) ++ (⟨#[41]⟩ : ByteArray)) ++ a2) t131 t132 t133 t134 t135 t136 true _ A27.out).mono ?_); rintro e w' ⟨rfl, ⟨nd, rfl⟩⟩; refine ⟨_, rfl, ?_⟩))
                       go_ret
                       exact ⟨by first | rfl | (simp [errW_none, errW_some] <;> rfl) | (simp [*, errW_none, errW_some] <;> rfl), by repeat (first | (with_reducible first | exact HB.out | apply below_alloc | apply pw_below_drewN | apply below_drew1) | exact HB.out)⟩
                    ·
                     rw [if_neg c31] at H
                     have c31b0 : (t132.toList == ([61] : List UInt8)) = false := beq_eq_false_iff_ne.mpr c31
                     have c31b1 : (t132.toList != ([61] : List UInt8)) = true := bne_iff_ne.mpr c31
                     as_aux_lemma =>
                      obtain rfl := Option.some.inj H
                      go_wp2_with (first | ((with_reducible refine gate_callee (f := 20) rfl ?_); refine goesL_ (some 64) rfl rfl Try.func20 (by kernel_rfl) rfl #[.int .i64 a3] rfl (by (try simp only [List.map_toArray, List.map_cons, List.map_nil]); first | done | rfl | (simp only [List.length_drop, List.length_take]; rfl)) ?_; (with_reducible refine (laws_gjOp.calls a3 t130 _ A19.out).mono ?_); rintro e w39 ⟨rfl, hb⟩; refine ⟨_, rfl, ?_⟩; have n0_ := Aside0.mk (below_step (by repeat (first | (with_reducible first | exact HB.out | apply below_alloc | apply pw_below_drewN | apply below_drew1) | exact HB.out)) hb); clear HB; have HB := n0_; clear n0_; (try clear hb); (try clear hb2); (try clear hk); (try clear hi)) | ((with_reducible refine gate_callee (f := 21) rfl ?_); refine goesL_ (some 79) rfl rfl Try.func21 (by kernel_rfl) rfl #[.string ((((((⟨#[35, 40]⟩ : ByteArray) ++ a0) ++ t130) ++ (((⟨#[34]⟩ : ByteArray) ++ a1) ++ (⟨#[34]⟩ : ByteArray))) ++ (⟨#[41]⟩ : ByteArray)) ++ a2)] rfl (by (try simp only [List.map_toArray, List.map_cons, List.map_nil]); first | done | rfl | (simp only [List.length_drop, List.length_take]; rfl)) ?_; (with_reducible refine (impl_GjQuery.calls kj14 ((((((⟨#[35, 40]⟩ : ByteArray) ++ a0) ++ t130) ++ (((⟨#[34]⟩ : ByteArray) ++ a1) ++ (⟨#[34]⟩ : ByteArray))) ++ (⟨#[41]⟩ : ByteArray)) ++ a2) t131 t132 t133 t134 t135 t136 true _ A27.out).mono ?_); rintro e w' ⟨rfl, ⟨nd, rfl⟩⟩; refine ⟨_, rfl, ?_⟩))
                      go_ret
                      exact ⟨by first | rfl | (simp [errW_none, errW_some] <;> rfl) | (simp [*, errW_none, errW_some] <;> rfl), by repeat (first | (with_reducible first | exact HB.out | apply below_alloc | apply pw_below_drewN | apply below_drew1) | exact HB.out)⟩
                   ·
                    rw [if_neg c30] at H
                    have c30b0 : (t131.toList == a0.toList) = false := beq_eq_false_iff_ne.mpr c30
                    have c30b1 : (t131.toList != a0.toList) = true := bne_iff_ne.mpr c30
                    as_aux_lemma =>
                     obtain rfl := Option.some.inj H
                     go_wp2_with (first | ((with_reducible refine gate_callee (f := 20) rfl ?_); refine goesL_ (some 64) rfl rfl Try.func20 (by kernel_rfl) rfl #[.int .i64 a3] rfl (by (try simp only [List.map_toArray, List.map_cons, List.map_nil]); first | done | rfl | (simp only [List.length_drop, List.length_take]; rfl)) ?_; (with_reducible refine (laws_gjOp.calls a3 t130 _ A19.out).mono ?_); rintro e w40 ⟨rfl, hb⟩; refine ⟨_, rfl, ?_⟩; have n0_ := Aside0.mk (below_step (by repeat (first | (with_reducible first | exact HB.out | apply below_alloc | apply pw_below_drewN | apply below_drew1) | exact HB.out)) hb); clear HB; have HB := n0_; clear n0_; (try clear hb); (try clear hb2); (try clear hk); (try clear hi)) | ((with_reducible refine gate_callee (f := 21) rfl ?_); refine goesL_ (some 79) rfl rfl Try.func21 (by kernel_rfl) rfl #[.string ((((((⟨#[35, 40]⟩ : ByteArray) ++ a0) ++ t130) ++ (((⟨#[34]⟩ : ByteArray) ++ a1) ++ (⟨#[34]⟩ : ByteArray))) ++ (⟨#[41]⟩ : ByteArray)) ++ a2)] rfl (by (try simp only [List.map_toArray, List.map_cons, List.map_nil]); first | done | rfl | (simp only [List.length_drop, List.length_take]; rfl)) ?_; (with_reducible refine (impl_GjQuery.calls kj14 ((((((⟨#[35, 40]⟩ : ByteArray) ++ a0) ++ t130) ++ (((⟨#[34]⟩ : ByteArray) ++ a1) ++ (⟨#[34]⟩ : ByteArray))) ++ (⟨#[41]⟩ : ByteArray)) ++ a2) t131 t132 t133 t134 t135 t136 true _ A27.out).mono ?_); rintro e w' ⟨rfl, ⟨nd, rfl⟩⟩; refine ⟨_, rfl, ?_⟩))
                     go_ret
                     exact ⟨by first | rfl | (simp [errW_none, errW_some] <;> rfl) | (simp [*, errW_none, errW_some] <;> rfl), by repeat (first | (with_reducible first | exact HB.out | apply below_alloc | apply pw_below_drewN | apply below_drew1) | exact HB.out)⟩
                  ·
                   replace c29 := Bool.eq_false_iff.mpr c29
                   subst c29
                   have H1 : (some false) = some r := by rw [if_neg (show ¬ (false = true) by decide)] at H; exact H
                   clear H
                   have H := H1
                   clear H1
                   as_aux_lemma =>
                    obtain rfl := Option.some.inj H
                    go_wp2_with (first | ((with_reducible refine gate_callee (f := 20) rfl ?_); refine goesL_ (some 64) rfl rfl Try.func20 (by kernel_rfl) rfl #[.int .i64 a3] rfl (by (try simp only [List.map_toArray, List.map_cons, List.map_nil]); first | done | rfl | (simp only [List.length_drop, List.length_take]; rfl)) ?_; (with_reducible refine (laws_gjOp.calls a3 t130 _ A19.out).mono ?_); rintro e w41 ⟨rfl, hb⟩; refine ⟨_, rfl, ?_⟩; have n0_ := Aside0.mk (below_step (by repeat (first | (with_reducible first | exact HB.out | apply below_alloc | apply pw_below_drewN | apply below_drew1) | exact HB.out)) hb); clear HB; have HB := n0_; clear n0_; (try clear hb); (try clear hb2); (try clear hk); (try clear hi)) | ((with_reducible refine gate_callee (f := 21) rfl ?_); refine goesL_ (some 79) rfl rfl Try.func21 (by kernel_rfl) rfl #[.string ((((((⟨#[35, 40]⟩ : ByteArray) ++ a0) ++ t130) ++ (((⟨#[34]⟩ : ByteArray) ++ a1) ++ (⟨#[34]⟩ : ByteArray))) ++ (⟨#[41]⟩ : ByteArray)) ++ a2)] rfl (by (try simp only [List.map_toArray, List.map_cons, List.map_nil]); first | done | rfl | (simp only [List.length_drop, List.length_take]; rfl)) ?_; (with_reducible refine (impl_GjQuery.calls kj14 ((((((⟨#[35, 40]⟩ : ByteArray) ++ a0) ++ t130) ++ (((⟨#[34]⟩ : ByteArray) ++ a1) ++ (⟨#[34]⟩ : ByteArray))) ++ (⟨#[41]⟩ : ByteArray)) ++ a2) t131 t132 t133 t134 t135 t136 false _ A27.out).mono ?_); rintro e w' ⟨rfl, ⟨nd, rfl⟩⟩; refine ⟨_, rfl, ?_⟩))
                    go_ret
                    exact ⟨by first | rfl | (simp [errW_none, errW_some] <;> rfl) | (simp [*, errW_none, errW_some] <;> rfl), by repeat (first | (with_reducible first | exact HB.out | apply below_alloc | apply pw_below_drewN | apply below_drew1) | exact HB.out)⟩
                 ·
                  rw [if_neg c28] at H
                  have c28b0 : (t130.toList == ([61, 61] : List UInt8)) = false := beq_eq_false_iff_ne.mpr c28
                  have c28b1 : (t130.toList != ([61, 61] : List UInt8)) = true := bne_iff_ne.mpr c28
                  by_cases c42 : t137 = true
                  ·
                   subst c42
                   have H1 : (if t131.toList = a0.toList then (if t132.toList = t130.toList then (if t133.toList = (((⟨#[34]⟩ : ByteArray) ++ a1) ++ (⟨#[34]⟩ : ByteArray)).toList then (if t134.toList = a2.toList then (if t135 = ((((((⟨#[35, 40]⟩ : ByteArray) ++ a0) ++ t130) ++ (((⟨#[34]⟩ : ByteArray) ++ a1) ++ (⟨#[34]⟩ : ByteArray))) ++ (⟨#[41]⟩ : ByteArray)).size : Int) then (some (!t136)) else (some false)) else (some false)) else (some false)) else (some false)) else (some false)) = some r := by rw [if_pos rfl] at H; exact H
                   clear H
                   have H := H1
                   clear H1
                   by_cases c43 : t131.toList = a0.toList
                   ·
                    rw [if_pos c43] at H
                    have c43b0 : (t131.toList == a0.toList) = true := beq_iff_eq.mpr c43
                    have c43b1 : (t131.toList != a0.toList) = false := bne_eq_false_iff_eq.mpr c43
                    clear c43
                    by_cases c44 : t132.toList = t130.toList
                    ·
                     rw [if_pos c44] at H
                     have c44b0 : (t132.toList == t130.toList) = true := beq_iff_eq.mpr c44
                     have c44b1 : (t132.toList != t130.toList) = false := bne_eq_false_iff_eq.mpr c44
                     clear c44
                     by_cases c45 : t133.toList = (((⟨#[34]⟩ : ByteArray) ++ a1) ++ (⟨#[34]⟩ : ByteArray)).toList
                     ·
                      rw [if_pos c45] at H
                      have c45b0 : (t133.toList == (((⟨#[34]⟩ : ByteArray) ++ a1) ++ (⟨#[34]⟩ : ByteArray)).toList) = true := beq_iff_eq.mpr c45
                      have c45b1 : (t133.toList != (((⟨#[34]⟩ : ByteArray) ++ a1) ++ (⟨#[34]⟩ : ByteArray)).toList) = false := bne_eq_false_iff_eq.mpr c45
                      clear c45
                      by_cases c46 : t134.toList = a2.toList
                      ·
                       rw [if_pos c46] at H
                       have c46b0 : (t134.toList == a2.toList) = true := beq_iff_eq.mpr c46
                       have c46b1 : (t134.toList != a2.toList) = false := bne_eq_false_iff_eq.mpr c46
                       clear c46
                       by_cases c47 : t135 = ((((((⟨#[35, 40]⟩ : ByteArray) ++ a0) ++ t130) ++ (((⟨#[34]⟩ : ByteArray) ++ a1) ++ (⟨#[34]⟩ : ByteArray))) ++ (⟨#[41]⟩ : ByteArray)).size : Int)
                       ·
                        rw [if_pos c47] at H
                        have c47b0 : (t135 == ((((((⟨#[35, 40]⟩ : ByteArray) ++ a0) ++ t130) ++ (((⟨#[34]⟩ : ByteArray) ++ a1) ++ (⟨#[34]⟩ : ByteArray))) ++ (⟨#[41]⟩ : ByteArray)).size : Int)) = true := beq_iff_eq.mpr c47
                        have c47b1 : (t135 != ((((((⟨#[35, 40]⟩ : ByteArray) ++ a0) ++ t130) ++ (((⟨#[34]⟩ : ByteArray) ++ a1) ++ (⟨#[34]⟩ : ByteArray))) ++ (⟨#[41]⟩ : ByteArray)).size : Int)) = false := bne_eq_false_iff_eq.mpr c47
                        try (have c47b09 := c47b0; simp only [ByteArray.size_append, sz_mk, List.size_toArray, List.length_cons, List.length_nil, Nat.reduceAdd, Nat.zero_add] at c47b09; push_cast at c47b09)
                        try (have c47b19 := c47b1; simp only [ByteArray.size_append, sz_mk, List.size_toArray, List.length_cons, List.length_nil, Nat.reduceAdd, Nat.zero_add] at c47b19; push_cast at c47b19)
                        clear c47
                        as_aux_lemma =>
                         obtain rfl := Option.some.inj H
                         go_wp2_with (first | ((with_reducible refine gate_callee (f := 20) rfl ?_); refine goesL_ (some 64) rfl rfl Try.func20 (by kernel_rfl) rfl #[.int .i64 a3] rfl (by (try simp only [List.map_toArray, List.map_cons, List.map_nil]); first | done | rfl | (simp only [List.length_drop, List.length_take]; rfl)) ?_; (with_reducible refine (laws_gjOp.calls a3 t130 _ A19.out).mono ?_); rintro e w48 ⟨rfl, hb⟩; refine ⟨_, rfl, ?_⟩; have n0_ := Aside0.mk (below_step (by repeat (first | (with_reducible first | exact HB.out | apply below_alloc | apply pw_below_drewN | apply below_drew1) | exact HB.out)) hb); clear HB; have HB := n0_; clear n0_; (try clear hb); (try clear hb2); (try clear hk); (try clear hi)) | ((with_reducible refine gate_callee (f := 21) rfl ?_); refine goesL_ (some 79) rfl rfl Try.func21 (by kernel_rfl) rfl #[.string ((((((⟨#[35, 40]⟩ : ByteArray) ++ a0) ++ t130) ++ (((⟨#[34]⟩ : ByteArray) ++ a1) ++ (⟨#[34]⟩ : ByteArray))) ++ (⟨#[41]⟩ : ByteArray)) ++ a2)] rfl (by (try simp only [List.map_toArray, List.map_cons, List.map_nil]); first | done | rfl | (simp only [List.length_drop, List.length_take]; rfl)) ?_; (with_reducible refine (impl_GjQuery.calls kj14 ((((((⟨#[35, 40]⟩ : ByteArray) ++ a0) ++ t130) ++ (((⟨#[34]⟩ : ByteArray) ++ a1) ++ (⟨#[34]⟩ : ByteArray))) ++ (⟨#[41]⟩ : ByteArray)) ++ a2) t131 t132 t133 t134 t135 t136 true _ A27.out).mono ?_); rintro e w' ⟨rfl, ⟨nd, rfl⟩⟩; refine ⟨_, rfl, ?_⟩))
                         go_ret
                         exact ⟨by first | rfl | (simp [errW_none, errW_some] <;> rfl) | (simp [*, errW_none, errW_some] <;> rfl), by repeat (first | (with_reducible first | exact HB.out | apply below_alloc | apply pw_below_drewN | apply below_drew1) | exact HB.out)⟩
                       ·
                        rw [if_neg c47] at H
                        have c47b0 : (t135 == ((((((⟨#[35, 40]⟩ : ByteArray) ++ a0) ++ t130) ++ (((⟨#[34]⟩ : ByteArray) ++ a1) ++ (⟨#[34]⟩ : ByteArray))) ++ (⟨#[41]⟩ : ByteArray)).size : Int)) = false := beq_eq_false_iff_ne.mpr c47
                        have c47b1 : (t135 != ((((((⟨#[35, 40]⟩ : ByteArray) ++ a0) ++ t130) ++ (((⟨#[34]⟩ : ByteArray) ++ a1) ++ (⟨#[34]⟩ : ByteArray))) ++ (⟨#[41]⟩ : ByteArray)).size : Int)) = true := bne_iff_ne.mpr c47
                        try (have c47b09 := c47b0; simp only [ByteArray.size_append, sz_mk, List.size_toArray, List.length_cons, List.length_nil, Nat.reduceAdd, Nat.zero_add] at c47b09; push_cast at c47b09)
                        try (have c47b19 := c47b1; simp only [ByteArray.size_append, sz_mk, List.size_toArray, List.length_cons, List.length_nil, Nat.reduceAdd, Nat.zero_add] at c47b19; push_cast at c47b19)
                        as_aux_lemma =>
                         obtain rfl := Option.some.inj H
                         go_wp2_with (first | ((with_reducible refine gate_callee (f := 20) rfl ?_); refine goesL_ (some 64) rfl rfl Try.func20 (by kernel_rfl) rfl #[.int .i64 a3] rfl (by (try simp only [List.map_toArray, List.map_cons, List.map_nil]); first | done | rfl | (simp only [List.length_drop, List.length_take]; rfl)) ?_; (with_reducible refine (laws_gjOp.calls a3 t130 _ A19.out).mono ?_); rintro e w49 ⟨rfl, hb⟩; refine ⟨_, rfl, ?_⟩; have n0_ := Aside0.mk (below_step (by repeat (first | (with_reducible first | exact HB.out | apply below_alloc | apply pw_below_drewN | apply below_drew1) | exact HB.out)) hb); clear HB; have HB := n0_; clear n0_; (try clear hb); (try clear hb2); (try clear hk); (try clear hi)) | ((with_reducible refine gate_callee (f := 21) rfl ?_); refine goesL_ (some 79) rfl rfl Try.func21 (by kernel_rfl) rfl #[.string ((((((⟨#[35, 40]⟩ : ByteArray) ++ a0) ++ t130) ++ (((⟨#[34]⟩ : ByteArray) ++ a1) ++ (⟨#[34]⟩ : ByteArray))) ++ (⟨#[41]⟩ : ByteArray)) ++ a2)] rfl (by (try simp only [List.map_toArray, List.map_cons, List.map_nil]); first | done | rfl | (simp only [List.length_drop, List.length_take]; rfl)) ?_; (with_reducible refine (impl_GjQuery.calls kj14 ((((((⟨#[35, 40]⟩ : ByteArray) ++ a0) ++ t130) ++ (((⟨#[34]⟩ : ByteArray) ++ a1) ++ (⟨#[34]⟩ : ByteArray))) ++ (⟨#[41]⟩ : ByteArray)) ++ a2) t131 t132 t133 t134 t135 t136 true _ A27.out).mono ?_); rintro e w' ⟨rfl, ⟨nd, rfl⟩⟩; refine ⟨_, rfl, ?_⟩))
                         go_ret
                         exact ⟨by first | rfl | (simp [errW_none, errW_some] <;> rfl) | (simp [*, errW_none, errW_some] <;> rfl), by repeat (first | (with_reducible first | exact HB.out | apply below_alloc | apply pw_below_drewN | apply below_drew1) | exact HB.out)⟩
                      ·
                       rw [if_neg c46] at H
                       have c46b0 : (t134.toList == a2.toList) = false := beq_eq_false_iff_ne.mpr c46
                       have c46b1 : (t134.toList != a2.toList) = true := bne_iff_ne.mpr c46
                       as_aux_lemma =>
                        obtain rfl := Option.some.inj H
                        go_wp2_with (first | ((with_reducible refine gate_callee (f := 20) rfl ?_); refine goesL_ (some 64) rfl rfl Try.func20 (by kernel_rfl) rfl #[.int .i64 a3] rfl (by (try simp only [List.map_toArray, List.map_cons, List.map_nil]); first | done | rfl | (simp only [List.length_drop, List.length_take]; rfl)) ?_; (with_reducible refine (laws_gjOp.calls a3 t130 _ A19.out).mono ?_); rintro e w50 ⟨rfl, hb⟩; refine ⟨_, rfl, ?_⟩; have n0_ := Aside0.mk (below_step (by repeat (first | (with_reducible first | exact HB.out | apply below_alloc | apply pw_below_drewN | apply below_drew1) | exact HB.out)) hb); clear HB; have HB := n0_; clear n0_; (try clear hb); (try clear hb2); (try clear hk); (try clear hi)) | ((with_reducible refine gate_callee (f := 21) rfl ?_); refine goesL_ (some 79) rfl rfl Try.func21 (by kernel_rfl) rfl #[.string ((((((⟨#[35, 40]⟩ : ByteArray) ++ a0) ++ t130) ++ (((⟨#[34]⟩ : ByteArray) ++ a1) ++ (⟨#[34]⟩ : ByteArray))) ++ (⟨#[41]⟩ : ByteArray)) ++ a2)] rfl (by (try simp only [List.map_toArray, List.map_cons, List.map_nil]); first | done | rfl | (simp only [List.length_drop, List.length_take]; rfl)) ?_; (with_reducible refine (impl_GjQuery.calls kj14 ((((((⟨#[35, 40]⟩ : ByteArray) ++ a0) ++ t130) ++ (((⟨#[34]⟩ : ByteArray) ++ a1) ++ (⟨#[34]⟩ : ByteArray))) ++ (⟨#[41]⟩ : ByteArray)) ++ a2) t131 t132 t133 t134 t135 t136 true _ A27.out).mono ?_); rintro e w' ⟨rfl, ⟨nd, rfl⟩⟩; refine ⟨_, rfl, ?_⟩))
                        go_ret
                        exact ⟨by first | rfl | (simp [errW_none, errW_some] <;> rfl) | (simp [*, errW_none, errW_some] <;> rfl), by repeat (first | (with_reducible first | exact HB.out | apply below_alloc | apply pw_below_drewN | apply below_drew1) | exact HB.out)⟩
                     ·
                      rw [if_neg c45] at H
                      have c45b0 : (t133.toList == (((⟨#[34]⟩ : ByteArray) ++ a1) ++ (⟨#[34]⟩ : ByteArray)).toList) = false := beq_eq_false_iff_ne.mpr c45
                      have c45b1 : (t133.toList != (((⟨#[34]⟩ : ByteArray) ++ a1) ++ (⟨#[34]⟩ : ByteArray)).toList) = true := bne_iff_ne.mpr c45
                      as_aux_lemma =>
                       obtain rfl := Option.some.inj H
                       go_wp2_with (first | ((with_reducible refine gate_callee (f := 20) rfl ?_); refine goesL_ (some 64) rfl rfl Try.func20 (by kernel_rfl) rfl #[.int .i64 a3] rfl (by (try simp only [List.map_toArray, List.map_cons, List.map_nil]); first | done | rfl | (simp only [List.length_drop, List.length_take]; rfl)) ?_; (with_reducible refine (laws_gjOp.calls a3 t130 _ A19.out).mono ?_); rintro e w51 ⟨rfl, hb⟩; refine ⟨_, rfl, ?_⟩; have n0_ := Aside0.mk (below_step (by repeat (first | (with_reducible first | exact HB.out | apply below_alloc | apply pw_below_drewN | apply below_drew1) | exact HB.out)) hb); clear HB; have HB := n0_; clear n0_; (try clear hb); (try clear hb2); (try clear hk); (try clear hi)) | ((with_reducible refine gate_callee (f := 21) rfl ?_); refine goesL_ (some 79) rfl rfl Try.func21 (by kernel_rfl) rfl #[.string ((((((⟨#[35, 40]⟩ : ByteArray) ++ a0) ++ t130) ++ (((⟨#[34]⟩ : ByteArray) ++ a1) ++ (⟨#[34]⟩ : ByteArray))) ++ (⟨#[41]⟩ : ByteArray)) ++ a2)] rfl (by (try simp only [List.map_toArray, List.map_cons, List.map_nil]); first | done | rfl | (simp only [List.length_drop, List.length_take]; rfl)) ?_; (with_reducible refine (impl_GjQuery.calls kj14 ((((((⟨#[35, 40]⟩ : ByteArray) ++ a0) ++ t130) ++ (((⟨#[34]⟩ : ByteArray) ++ a1) ++ (⟨#[34]⟩ : ByteArray))) ++ (⟨#[41]⟩ : ByteArray)) ++ a2) t131 t132 t133 t134 t135 t136 true _ A27.out).mono ?_); rintro e w' ⟨rfl, ⟨nd, rfl⟩⟩; refine ⟨_, rfl, ?_⟩))
                       go_ret
                       exact ⟨by first | rfl | (simp [errW_none, errW_some] <;> rfl) | (simp [*, errW_none, errW_some] <;> rfl), by repeat (first | (with_reducible first | exact HB.out | apply below_alloc | apply pw_below_drewN | apply below_drew1) | exact HB.out)⟩
                    ·
                     rw [if_neg c44] at H
                     have c44b0 : (t132.toList == t130.toList) = false := beq_eq_false_iff_ne.mpr c44
                     have c44b1 : (t132.toList != t130.toList) = true := bne_iff_ne.mpr c44
                     as_aux_lemma =>
                      obtain rfl := Option.some.inj H
                      go_wp2_with (first | ((with_reducible refine gate_callee (f := 20) rfl ?_); refine goesL_ (some 64) rfl rfl Try.func20 (by kernel_rfl) rfl #[.int .i64 a3] rfl (by (try simp only [List.map_toArray, List.map_cons, List.map_nil]); first | done | rfl | (simp only [List.length_drop, List.length_take]; rfl)) ?_; (with_reducible refine (laws_gjOp.calls a3 t130 _ A19.out).mono ?_); rintro e w52 ⟨rfl, hb⟩; refine ⟨_, rfl, ?_⟩; have n0_ := Aside0.mk (below_step (by repeat (first | (with_reducible first | exact HB.out | apply below_alloc | apply pw_below_drewN | apply below_drew1) | exact HB.out)) hb); clear HB; have HB := n0_; clear n0_; (try clear hb); (try clear hb2); (try clear hk); (try clear hi)) | ((with_reducible refine gate_callee (f := 21) rfl ?_); refine goesL_ (some 79) rfl rfl Try.func21 (by kernel_rfl) rfl #[.string ((((((⟨#[35, 40]⟩ : ByteArray) ++ a0) ++ t130) ++ (((⟨#[34]⟩ : ByteArray) ++ a1) ++ (⟨#[34]⟩ : ByteArray))) ++ (⟨#[41]⟩ : ByteArray)) ++ a2)] rfl (by (try simp only [List.map_toArray, List.map_cons, List.map_nil]); first | done | rfl | (simp only [List.length_drop, List.length_take]; rfl)) ?_; (with_reducible refine (impl_GjQuery.calls kj14 ((((((⟨#[35, 40]⟩ : ByteArray) ++ a0) ++ t130) ++ (((⟨#[34]⟩ : ByteArray) ++ a1) ++ (⟨#[34]⟩ : ByteArray))) ++ (⟨#[41]⟩ : ByteArray)) ++ a2) t131 t132 t133 t134 t135 t136 true _ A27.out).mono ?_); rintro e w' ⟨rfl, ⟨nd, rfl⟩⟩; refine ⟨_, rfl, ?_⟩))
                      go_ret
                      exact ⟨by first | rfl | (simp [errW_none, errW_some] <;> rfl) | (simp [*, errW_none, errW_some] <;> rfl), by repeat (first | (with_reducible first | exact HB.out | apply below_alloc | apply pw_below_drewN | apply below_drew1) | exact HB.out)⟩
                   ·
                    rw [if_neg c43] at H
                    have c43b0 : (t131.toList == a0.toList) = false := beq_eq_false_iff_ne.mpr c43
                    have c43b1 : (t131.toList != a0.toList) = true := bne_iff_ne.mpr c43
                    as_aux_lemma =>
                     obtain rfl := Option.some.inj H
                     go_wp2_with (first | ((with_reducible refine gate_callee (f := 20) rfl ?_); refine goesL_ (some 64) rfl rfl Try.func20 (by kernel_rfl) rfl #[.int .i64 a3] rfl (by (try simp only [List.map_toArray, List.map_cons, List.map_nil]); first | done | rfl | (simp only [List.length_drop, List.length_take]; rfl)) ?_; (with_reducible refine (laws_gjOp.calls a3 t130 _ A19.out).mono ?_); rintro e w53 ⟨rfl, hb⟩; refine ⟨_, rfl, ?_⟩; have n0_ := Aside0.mk (below_step (by repeat (first | (with_reducible first | exact HB.out | apply below_alloc | apply pw_below_drewN | apply below_drew1) | exact HB.out)) hb); clear HB; have HB := n0_; clear n0_; (try clear hb); (try clear hb2); (try clear hk); (try clear hi)) | ((with_reducible refine gate_callee (f := 21) rfl ?_); refine goesL_ (some 79) rfl rfl Try.func21 (by kernel_rfl) rfl #[.string ((((((⟨#[35, 40]⟩ : ByteArray) ++ a0) ++ t130) ++ (((⟨#[34]⟩ : ByteArray) ++ a1) ++ (⟨#[34]⟩ : ByteArray))) ++ (⟨#[41]⟩ : ByteArray)) ++ a2)] rfl (by (try simp only [List.map_toArray, List.map_cons, List.map_nil]); first | done | rfl | (simp only [List.length_drop, List.length_take]; rfl)) ?_; (with_reducible refine (impl_GjQuery.calls kj14 ((((((⟨#[35, 40]⟩ : ByteArray) ++ a0) ++ t130) ++ (((⟨#[34]⟩ : ByteArray) ++ a1) ++ (⟨#[34]⟩ : ByteArray))) ++ (⟨#[41]⟩ : ByteArray)) ++ a2) t131 t132 t133 t134 t135 t136 true _ A27.out).mono ?_); rintro e w' ⟨rfl, ⟨nd, rfl⟩⟩; refine ⟨_, rfl, ?_⟩))
                     go_ret
                     exact ⟨by first | rfl | (simp [errW_none, errW_some] <;> rfl) | (simp [*, errW_none, errW_some] <;> rfl), by repeat (first | (with_reducible first | exact HB.out | apply below_alloc | apply pw_below_drewN | apply below_drew1) | exact HB.out)⟩
                  ·
                   replace c42 := Bool.eq_false_iff.mpr c42
                   subst c42
                   have H1 : (some false) = some r := by rw [if_neg (show ¬ (false = true) by decide)] at H; exact H
                   clear H
                   have H := H1
                   clear H1
                   as_aux_lemma =>
                    obtain rfl := Option.some.inj H
                    go_wp2_with (first | ((with_reducible refine gate_callee (f := 20) rfl ?_); refine goesL_ (some 64) rfl rfl Try.func20 (by kernel_rfl) rfl #[.int .i64 a3] rfl (by (try simp only [List.map_toArray, List.map_cons, List.map_nil]); first | done | rfl | (simp only [List.length_drop, List.length_take]; rfl)) ?_; (with_reducible refine (laws_gjOp.calls a3 t130 _ A19.out).mono ?_); rintro e w54 ⟨rfl, hb⟩; refine ⟨_, rfl, ?_⟩; have n0_ := Aside0.mk (below_step (by repeat (first | (with_reducible first | exact HB.out | apply below_alloc | apply pw_below_drewN | apply below_drew1) | exact HB.out)) hb); clear HB; have HB := n0_; clear n0_; (try clear hb); (try clear hb2); (try clear hk); (try clear hi)) | ((with_reducible refine gate_callee (f := 21) rfl ?_); refine goesL_ (some 79) rfl rfl Try.func21 (by kernel_rfl) rfl #[.string ((((((⟨#[35, 40]⟩ : ByteArray) ++ a0) ++ t130) ++ (((⟨#[34]⟩ : ByteArray) ++ a1) ++ (⟨#[34]⟩ : ByteArray))) ++ (⟨#[41]⟩ : ByteArray)) ++ a2)] rfl (by (try simp only [List.map_toArray, List.map_cons, List.map_nil]); first | done | rfl | (simp only [List.length_drop, List.length_take]; rfl)) ?_; (with_reducible refine (impl_GjQuery.calls kj14 ((((((⟨#[35, 40]⟩ : ByteArray) ++ a0) ++ t130) ++ (((⟨#[34]⟩ : ByteArray) ++ a1) ++ (⟨#[34]⟩ : ByteArray))) ++ (⟨#[41]⟩ : ByteArray)) ++ a2) t131 t132 t133 t134 t135 t136 false _ A27.out).mono ?_); rintro e w' ⟨rfl, ⟨nd, rfl⟩⟩; refine ⟨_, rfl, ?_⟩))
                    go_ret
                    exact ⟨by first | rfl | (simp [errW_none, errW_some] <;> rfl) | (simp [*, errW_none, errW_some] <;> rfl), by repeat (first | (with_reducible first | exact HB.out | apply below_alloc | apply pw_below_drewN | apply below_drew1) | exact HB.out)⟩
                ·
                 rw [if_neg c26] at H
                 exact absurd H (by simp)
               ·
                rw [if_neg c25] at H
                exact absurd H (by simp)
              ·
               rw [if_neg c24] at H
               exact absurd H (by simp)
             ·
              rw [if_neg c23] at H
              exact absurd H (by simp)
            ·
             rw [if_neg c22] at H
             exact absurd H (by simp)
           ·
            rw [if_neg c21] at H
            exact absurd H (by simp)
          ·
           rw [if_neg c20] at H
           exact absurd H (by simp)

/-- THE ONE PURE STATEMENT of laws_FnGjQueryParts: yours. -/
def laws_FnGjQueryParts.Pure : Prop := ∀ (a0 : ByteArray) (a1 : ByteArray) (a2 : ByteArray) (a3 : Int), a0.size ≤ 140737488351232 → a1.size ≤ 140737488351232 → a2.size ≤ 140737488351232 → (Lit.int .i64 a3).wf = true → ∃ k, laws_FnGjQueryParts.f k a0 a1 a2 a3 = some true
theorem laws_FnGjQueryParts.walk (P : laws_FnGjQueryParts.Pure) (a0 : ByteArray) (a1 : ByteArray) (a2 : ByteArray) (a3 : Int) (w : World) (w0 : a0.size ≤ 140737488351232) (w1 : a1.size ≤ 140737488351232) (w2 : a2.size ≤ 140737488351232) (w3 : (Lit.int .i64 a3).wf = true) :
    Calls Try.prog 7 #[.string a0, .string a1, .string a2, .int .i64 a3] w fun e w' => e = .returned (.bool true) ∧ Below w.heap.size w w' := by
  obtain ⟨k, h⟩ := P a0 a1 a2 a3 w0 w1 w2 w3
  refine (laws_FnGjQueryParts.calls k a0 a1 a2 a3 true w h).mono ?_
  rintro e w' ⟨rfl, hd⟩
  exact ⟨rfl, hd⟩

end Go.Proofs.Ytnmbpleneddkhaa.PFnGjQueryParts
