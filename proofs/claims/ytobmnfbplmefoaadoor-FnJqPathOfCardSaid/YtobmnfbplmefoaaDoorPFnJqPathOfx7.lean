-- Written by a program of this session (wip/prx) out of the print of the loaded functions.
import Derived.Test.YtobmnfbplmefoaaDoorPFnJqPathOfx0
import Derived.Test.YtobmnfbplmefoaaDoorGXFnJqPathOf
namespace Go.Proofs.YtobmnfbplmefoaaDoor.PFnJqPathOf
open Go.RowKit Go.Proofs.YtobmnfbplmefoaaDoorW.PrintWords Go.Proofs.YtobmnfbplmefoaaDoorW.PrintLast Go.Proofs.YtobmnfbplmefoaaDoorW.PrintMore
attribute [local go_sem] max2_int min2_int max_two min_two max_three min_three max_four min_four   -- for this text's walks alone
set_option linter.unusedVariables false
set_option linter.unusedSimpArgs false

/-! ### jsonparser_parseBracketPathComponent: function 21 -/
mutual
def jsonparser_parseBracketPathComponent.l0 : Nat → ByteArray → Int → Int → Option (ByteArray × Int × Option Int)
  | 0, _, _, _ => none
  | k + 1, x0, x1, x7 => if x7 < (x0.size : Int) then (if 0 ≤ x7 then (jsonparser_parseBracketPathComponent.j1 k x0 x1 x7 ((bt x0 x7) != 93)) else (none)) else (jsonparser_parseBracketPathComponent.j1 k x0 x1 x7 false)
def jsonparser_parseBracketPathComponent.j1 : Nat → ByteArray → Int → Int → Bool → Option (ByteArray × Int × Option Int)
  | 0, _, _, _, _ => none
  | k + 1, x0, x1, x7, x20 => if x20 = true then (if 0 ≤ x7 then (if x7 < (x0.size : Int) then (if (bt x0 x7) = 91 then (some ((⟨#[]⟩ : ByteArray), 0, some 1)) else (if (bt x0 x7) = 34 then (some ((⟨#[]⟩ : ByteArray), 0, some 1)) else (jsonparser_parseBracketPathComponent.l0 k x0 x1 (wrap64 (x7 + 1))))) else (none)) else (none)) else (if x7 = (x0.size : Int) then (jsonparser_parseBracketPathComponent.j2 k x0 x1 x7 true) else (jsonparser_parseBracketPathComponent.j2 k x0 x1 x7 (x7 == (wrap64 (x1 + 1)))))
def jsonparser_parseBracketPathComponent.j2 : Nat → ByteArray → Int → Int → Bool → Option (ByteArray × Int × Option Int)
  | 0, _, _, _, _ => none
  | k + 1, x0, x1, x7, x43 => if x43 = true then (some ((⟨#[]⟩ : ByteArray), 0, some 1)) else (if 0 ≤ (wrap64 (x1 + 1)) then (if (wrap64 (x1 + 1)) < (x0.size : Int) then (if (bt x0 (wrap64 (x1 + 1))) = 42 then (if x7 = (wrap64 (x1 + 2)) then (if 0 ≤ x1 then (if x1 ≤ (wrap64 (x7 + 1)) then (if (wrap64 (x7 + 1)) ≤ (x0.size : Int) then (some (x0.extract (x1 : Int).toNat ((wrap64 (x7 + 1)) : Int).toNat, wrap64 (x7 + 1), none)) else (none)) else (none)) else (none)) else (some ((⟨#[]⟩ : ByteArray), 0, some 1))) else (jsonparser_parseBracketPathComponent.l1 k x0 x1 x7 (wrap64 (x1 + 1)))) else (none)) else (none))
def jsonparser_parseBracketPathComponent.l1 : Nat → ByteArray → Int → Int → Int → Option (ByteArray × Int × Option Int)
  | 0, _, _, _, _ => none
  | k + 1, x0, x1, x7, x8 => if x8 < x7 then (if 0 ≤ x8 then (if x8 < (x0.size : Int) then (if (bt x0 x8) < 48 then (some ((⟨#[]⟩ : ByteArray), 0, some 1)) else (if (bt x0 x8) > 57 then (some ((⟨#[]⟩ : ByteArray), 0, some 1)) else (jsonparser_parseBracketPathComponent.l1 k x0 x1 x7 (wrap64 (x8 + 1))))) else (none)) else (none)) else (if 0 ≤ x1 then (if x1 ≤ (wrap64 (x7 + 1)) then (if (wrap64 (x7 + 1)) ≤ (x0.size : Int) then (some (x0.extract (x1 : Int).toNat ((wrap64 (x7 + 1)) : Int).toNat, wrap64 (x7 + 1), none)) else (none)) else (none)) else (none))
end
def jsonparser_parseBracketPathComponent.f (k : Nat) (a0 : ByteArray) (a1 : Int) : Option (ByteArray × Int × Option Int) := jsonparser_parseBracketPathComponent.l0 k a0 a1 (wrap64 (a1 + 1))
theorem jsonparser_parseBracketPathComponent.mono_l : ∀ k, (∀ y0 y1 y2, LeO (jsonparser_parseBracketPathComponent.l0 k y0 y1 y2) (jsonparser_parseBracketPathComponent.l0 (k + 1) y0 y1 y2)) ∧ (∀ y0 y1 y2 y3, LeO (jsonparser_parseBracketPathComponent.j1 k y0 y1 y2 y3) (jsonparser_parseBracketPathComponent.j1 (k + 1) y0 y1 y2 y3)) ∧ (∀ y0 y1 y2 y3, LeO (jsonparser_parseBracketPathComponent.j2 k y0 y1 y2 y3) (jsonparser_parseBracketPathComponent.j2 (k + 1) y0 y1 y2 y3)) ∧ (∀ y0 y1 y2 y3, LeO (jsonparser_parseBracketPathComponent.l1 k y0 y1 y2 y3) (jsonparser_parseBracketPathComponent.l1 (k + 1) y0 y1 y2 y3))
  | 0 => ⟨fun _ _ _ r h => by simp [jsonparser_parseBracketPathComponent.l0] at h, fun _ _ _ _ r h => by simp [jsonparser_parseBracketPathComponent.j1] at h, fun _ _ _ _ r h => by simp [jsonparser_parseBracketPathComponent.j2] at h, fun _ _ _ _ r h => by simp [jsonparser_parseBracketPathComponent.l1] at h⟩
  | k + 1 => by
    obtain ⟨ih0, ih1, ih2, ih3⟩ := jsonparser_parseBracketPathComponent.mono_l k
    refine ⟨?_, ?_, ?_, ?_⟩
    · intro y0 y1 y2
      unfold jsonparser_parseBracketPathComponent.l0
      repeat' first
      | (with_reducible exact ih0 _ _ _)
      | (with_reducible exact ih1 _ _ _ _)
      | (with_reducible exact ih2 _ _ _ _)
      | (with_reducible exact ih3 _ _ _ _)
      | (with_reducible exact LeO.refl _)
      | (with_reducible exact LeO.none _)
      | (with_reducible refine LeO.ite ?_ ?_)
      | (with_reducible refine LeO.bind ?_ (fun _ => ?_))
      | exact ih0 _ _ _
      | exact ih1 _ _ _ _
      | exact ih2 _ _ _ _
      | exact ih3 _ _ _ _
      | exact LeO.none _
      | refine LeO.ite ?_ ?_
      | refine LeO.bind ?_ (fun _ => ?_)
    · intro y0 y1 y2 y3
      unfold jsonparser_parseBracketPathComponent.j1
      repeat' first
      | (with_reducible exact ih0 _ _ _)
      | (with_reducible exact ih1 _ _ _ _)
      | (with_reducible exact ih2 _ _ _ _)
      | (with_reducible exact ih3 _ _ _ _)
      | (with_reducible exact LeO.refl _)
      | (with_reducible exact LeO.none _)
      | (with_reducible refine LeO.ite ?_ ?_)
      | (with_reducible refine LeO.bind ?_ (fun _ => ?_))
      | exact ih0 _ _ _
      | exact ih1 _ _ _ _
      | exact ih2 _ _ _ _
      | exact ih3 _ _ _ _
      | exact LeO.none _
      | refine LeO.ite ?_ ?_
      | refine LeO.bind ?_ (fun _ => ?_)
    · intro y0 y1 y2 y3
      unfold jsonparser_parseBracketPathComponent.j2
      repeat' first
      | (with_reducible exact ih0 _ _ _)
      | (with_reducible exact ih1 _ _ _ _)
      | (with_reducible exact ih2 _ _ _ _)
      | (with_reducible exact ih3 _ _ _ _)
      | (with_reducible exact LeO.refl _)
      | (with_reducible exact LeO.none _)
      | (with_reducible refine LeO.ite ?_ ?_)
      | (with_reducible refine LeO.bind ?_ (fun _ => ?_))
      | exact ih0 _ _ _
      | exact ih1 _ _ _ _
      | exact ih2 _ _ _ _
      | exact ih3 _ _ _ _
      | exact LeO.none _
      | refine LeO.ite ?_ ?_
      | refine LeO.bind ?_ (fun _ => ?_)
    · intro y0 y1 y2 y3
      unfold jsonparser_parseBracketPathComponent.l1
      repeat' first
      | (with_reducible exact ih0 _ _ _)
      | (with_reducible exact ih1 _ _ _ _)
      | (with_reducible exact ih2 _ _ _ _)
      | (with_reducible exact ih3 _ _ _ _)
      | (with_reducible exact LeO.refl _)
      | (with_reducible exact LeO.none _)
      | (with_reducible refine LeO.ite ?_ ?_)
      | (with_reducible refine LeO.bind ?_ (fun _ => ?_))
      | exact ih0 _ _ _
      | exact ih1 _ _ _ _
      | exact ih2 _ _ _ _
      | exact ih3 _ _ _ _
      | exact LeO.none _
      | refine LeO.ite ?_ ?_
      | refine LeO.bind ?_ (fun _ => ?_)
theorem jsonparser_parseBracketPathComponent.mono : ∀ a0 a1 k, LeO (jsonparser_parseBracketPathComponent.f k a0 a1) (jsonparser_parseBracketPathComponent.f (k + 1) a0 a1) := by
  intro a0 a1 k
  obtain ⟨ih0, ih1, ih2, ih3⟩ := jsonparser_parseBracketPathComponent.mono_l k
  unfold jsonparser_parseBracketPathComponent.f
  repeat' first
      | (with_reducible exact ih0 _ _ _)
      | (with_reducible exact ih1 _ _ _ _)
      | (with_reducible exact ih2 _ _ _ _)
      | (with_reducible exact ih3 _ _ _ _)
      | (with_reducible exact LeO.refl _)
      | (with_reducible exact LeO.none _)
      | (with_reducible refine LeO.ite ?_ ?_)
      | (with_reducible refine LeO.bind ?_ (fun _ => ?_))
      | exact ih0 _ _ _
      | exact ih1 _ _ _ _
      | exact ih2 _ _ _ _
      | exact ih3 _ _ _ _
      | exact LeO.none _
      | refine LeO.ite ?_ ?_
      | refine LeO.bind ?_ (fun _ => ?_)
set_option maxHeartbeats 8000000 in
set_option maxRecDepth 100000 in
theorem jsonparser_parseBracketPathComponent.calls (k : Nat) (a0 : ByteArray) (a1 : Int) (r1 : ByteArray) (r2 : Int) (r3 : Option Int) (w : World) (h : jsonparser_parseBracketPathComponent.f k a0 a1 = some (r1, r2, r3)) (hG : Glob w) :
    Calls Tryd.prog 21 #[.string a0, .int .i64 a1] w fun e w' => ∃ evr3 : TypeId × Value, e = .returned (.tuple #[.string r1, .int .i64 r2, errX r3 evr3]) ∧ Drawn0 w w' := by
 obtain ⟨gt1, gp1, hgv1_⟩ := hG.e1
 have hgv1 := Aside0.mk hgv1_
 clear hgv1_
 have HG := Aside0.mk hG
 clear hG
 have H : (jsonparser_parseBracketPathComponent.l0 k a0 a1 (wrap64 (a1 + 1))) = some (r1, r2, r3) := h
 clear h
 have H' := Aside0.mk H
 clear H
 go_enter Tryd.func21, Tryd.ntmps21
 go_wp2
 repeat (go_quiet (fail); try go_wp2)
 try simp only [Act.put, List.setIfInBounds_toArray, List.set_cons_succ, List.set_cons_zero]
 go_loopg [7] k (fun kq v7 w' => ∃ (x7_1 : Int), v7 = .int .i64 x7_1 ∧ Aside0 (jsonparser_parseBracketPathComponent.l0 kq a0 a1 x7_1 = some (r1, r2, r3)) ∧ Aside0 (kq ≤ k) ∧ Drawn0 w w')
 case atStart => exact ⟨(wrap64 (a1 + 1)), (by first | rfl | (simp; done) | (simp [nil_ne_, nil_eq_]; done) | (simp [*]; done)), H', ⟨Nat.le_refl _⟩, by repeat (first | exact Drawn0.refl _ | apply Drawn0.step)⟩
 case round =>
  clear H'
  try clear p1
  try clear c2
  try clear p2
  obtain ⟨x7_1, rfl, HA, HK1, ⟨m1, rfl⟩⟩ := hrel
  cases gk with
  | zero => exact absurd HA.out (by simp [jsonparser_parseBracketPathComponent.l0])
  | succ k1 =>
   have H := HA.out
   clear HA
   simp only [jsonparser_parseBracketPathComponent.l0] at H
   have HC3 := Aside0.mk H
   clear H
   go_upto_region 2 with (fail)
   repeat (go_quiet (fail); go_upto_region 2 with (fail))
   go_cut [20] (fun v20 wc => ∃ (kq : Nat) (x20_2 : Bool), v20 = .bool x20_2 ∧ Aside0 (jsonparser_parseBracketPathComponent.j1 kq a0 a1 x7_1 x20_2 = some (r1, r2, r3)) ∧ Aside0 (kq ≤ k1) ∧ Drawn0 w wc)
   case first =>
    have H := HC3.out
    clear HC3
    by_cases c4 : x7_1 < (a0.size : Int)
    ·
     rw [if_pos c4] at H
     have c4b0 : decide (x7_1 < (a0.size : Int)) = true := decide_eq_true c4
     clear c4
     (first | rw [c4b0] | (simp only [i64_w, i32_w]; rw [c4b0]) | rw [c4b1] | skip)
     by_cases c5 : 0 ≤ x7_1
     ·
      rw [if_pos c5] at H
      have c5b0 : decide (0 ≤ x7_1) = true := decide_eq_true c5
      clear c5
      have H' := Aside0.mk H
      clear H
      have p6 : 0 ≤ (x7_1 : Int) := of_decide_eq_true (by first | (with_reducible assumption) | assumption)
      have q6 : x7_1 < (a0.size : Int) := of_decide_eq_true (by first | (with_reducible assumption) | assumption)
      have hx6 := bt_at a0 x7_1
      replace p6 := eq_true p6
      replace q6 := eq_true q6
      go_wp2
      repeat (go_quiet (fail); try go_wp2)
      go_meet
      case rel => exact ⟨_, (((bt a0 x7_1) != 93)), (by first | rfl | (simp; done) | (simp [nil_ne_, nil_eq_]; done) | (simp [*]; done)), H', ⟨by have := HK1.out; first | omega | exact Nat.le_refl _⟩, by repeat (first | exact Drawn0.refl _ | apply Drawn0.step)⟩
     ·
      rw [if_neg c5] at H
      exact absurd H (by simp)
    ·
     rw [if_neg c4] at H
     have c4b0 : decide (x7_1 < (a0.size : Int)) = false := decide_eq_false c4
     clear c4
     (first | rw [c4b0] | (simp only [i64_w, i32_w]; rw [c4b0]) | rw [c4b1] | skip)
     have H' := Aside0.mk H
     clear H
     go_wp2
     repeat (go_quiet (fail); try go_wp2)
     go_meet
     case rel => exact ⟨_, (false), (by first | rfl | (simp; done) | (simp [nil_ne_, nil_eq_]; done) | (simp [*]; done)), H', ⟨by have := HK1.out; first | omega | exact Nat.le_refl _⟩, by repeat (first | exact Drawn0.refl _ | apply Drawn0.step)⟩
   case rest =>
    clear HC3
    try clear p1
    try clear c2
    try clear p2
    try clear c4
    try clear c4b0
    try clear c4b1
    try clear c5
    try clear c5b0
    try clear p6
    try clear q6
    try clear hx6
    try clear p1
    try clear p2
    try clear p6
    try clear q6
    obtain ⟨kq, x20_2, rfl, HA, HJ2, ⟨mc2, rfl⟩⟩ := hcut
    cases kq with
    | zero => exact absurd HA.out (by simp [jsonparser_parseBracketPathComponent.j1])
    | succ kj2 =>
     have H := HA.out
     clear HA
     simp only [jsonparser_parseBracketPathComponent.j1] at H
     by_cases c7 : x20_2 = true
     ·
      subst c7
      have H1 : (if 0 ≤ x7_1 then (if x7_1 < (a0.size : Int) then (if (bt a0 x7_1) = 91 then (some ((⟨#[]⟩ : ByteArray), 0, some 1)) else (if (bt a0 x7_1) = 34 then (some ((⟨#[]⟩ : ByteArray), 0, some 1)) else (jsonparser_parseBracketPathComponent.l0 kj2 a0 a1 (wrap64 (x7_1 + 1))))) else (none)) else (none)) = some (r1, r2, r3) := by rw [if_pos rfl] at H; exact H
      clear H
      have H := H1
      clear H1
      by_cases c8 : 0 ≤ x7_1
      ·
       rw [if_pos c8] at H
       have c8b0 : decide (0 ≤ x7_1) = true := decide_eq_true c8
       clear c8
       by_cases c9 : x7_1 < (a0.size : Int)
       ·
        rw [if_pos c9] at H
        have c9b0 : decide (x7_1 < (a0.size : Int)) = true := decide_eq_true c9
        clear c9
        by_cases c11 : (bt a0 x7_1) = 91
        ·
         rw [if_pos c11] at H
         have c11b0 : ((bt a0 x7_1) == 91) = true := beq_iff_eq.mpr c11
         have c11b1 : ((bt a0 x7_1) != 91) = false := bne_eq_false_iff_eq.mpr c11
         clear c11
         simp only [Option.some.injEq, Prod.mk.injEq] at H
         obtain ⟨rfl, rfl, rfl⟩ := H
         have p10 : 0 ≤ (x7_1 : Int) := of_decide_eq_true (by first | (with_reducible assumption) | assumption)
         have q10 : x7_1 < (a0.size : Int) := of_decide_eq_true (by first | (with_reducible assumption) | assumption)
         have hx10 := bt_at a0 x7_1
         replace p10 := eq_true p10
         replace q10 := eq_true q10
         have hgl12 := hgv1.out
         go_wp2
         repeat (go_quiet (fail); try go_wp2)
         go_ret3
         exact ⟨(gt1, gp1), by first | rfl | (simp; done) | (simp [nil_ne_, nil_eq_]; done) | (simp [*]; done), by repeat (first | exact Drawn0.refl _ | apply Drawn0.step)⟩
        ·
         rw [if_neg c11] at H
         have c11b0 : ((bt a0 x7_1) == 91) = false := beq_eq_false_iff_ne.mpr c11
         have c11b1 : ((bt a0 x7_1) != 91) = true := bne_iff_ne.mpr c11
         by_cases c14 : (bt a0 x7_1) = 34
         ·
          rw [if_pos c14] at H
          have c14b0 : ((bt a0 x7_1) == 34) = true := beq_iff_eq.mpr c14
          have c14b1 : ((bt a0 x7_1) != 34) = false := bne_eq_false_iff_eq.mpr c14
          clear c14
          simp only [Option.some.injEq, Prod.mk.injEq] at H
          obtain ⟨rfl, rfl, rfl⟩ := H
          have p10 : 0 ≤ (x7_1 : Int) := of_decide_eq_true (by first | (with_reducible assumption) | assumption)
          have q10 : x7_1 < (a0.size : Int) := of_decide_eq_true (by first | (with_reducible assumption) | assumption)
          have hx10 := bt_at a0 x7_1
          replace p10 := eq_true p10
          replace q10 := eq_true q10
          have p13 : 0 ≤ (x7_1 : Int) := of_decide_eq_true (by first | (with_reducible assumption) | assumption)
          have q13 : x7_1 < (a0.size : Int) := of_decide_eq_true (by first | (with_reducible assumption) | assumption)
          have hx13 := bt_at a0 x7_1
          replace p13 := eq_true p13
          replace q13 := eq_true q13
          have hgl15 := hgv1.out
          go_wp2
          repeat (go_quiet (fail); try go_wp2)
          go_ret3
          exact ⟨(gt1, gp1), by first | rfl | (simp; done) | (simp [nil_ne_, nil_eq_]; done) | (simp [*]; done), by repeat (first | exact Drawn0.refl _ | apply Drawn0.step)⟩
         ·
          rw [if_neg c14] at H
          have c14b0 : ((bt a0 x7_1) == 34) = false := beq_eq_false_iff_ne.mpr c14
          have c14b1 : ((bt a0 x7_1) != 34) = true := bne_iff_ne.mpr c14
          have H' := Aside0.mk H
          clear H
          have p10 : 0 ≤ (x7_1 : Int) := of_decide_eq_true (by first | (with_reducible assumption) | assumption)
          have q10 : x7_1 < (a0.size : Int) := of_decide_eq_true (by first | (with_reducible assumption) | assumption)
          have hx10 := bt_at a0 x7_1
          replace p10 := eq_true p10
          replace q10 := eq_true q10
          have p13 : 0 ≤ (x7_1 : Int) := of_decide_eq_true (by first | (with_reducible assumption) | assumption)
          have q13 : x7_1 < (a0.size : Int) := of_decide_eq_true (by first | (with_reducible assumption) | assumption)
          have hx13 := bt_at a0 x7_1
          replace p13 := eq_true p13
          replace q13 := eq_true q13
          go_wp2
          repeat (go_quiet (fail); try go_wp2)
          go_roundg kj2
          case measure => have := HK1.out; have := HJ2.out; omega
          case rel => exact ⟨(wrap64 (x7_1 + 1)), (by first | rfl | (simp; done) | (simp [nil_ne_, nil_eq_]; done) | (simp [*]; done)), H', ⟨by have := HK1.out; have := HJ2.out; omega⟩, by repeat (first | exact Drawn0.refl _ | apply Drawn0.step)⟩
       ·
        rw [if_neg c9] at H
        exact absurd H (by simp)
      ·
       rw [if_neg c8] at H
       exact absurd H (by simp)
     ·
      replace c7 := Bool.eq_false_iff.mpr c7
      subst c7
      have H1 : (if x7_1 = (a0.size : Int) then (jsonparser_parseBracketPathComponent.j2 kj2 a0 a1 x7_1 true) else (jsonparser_parseBracketPathComponent.j2 kj2 a0 a1 x7_1 (x7_1 == (wrap64 (a1 + 1))))) = some (r1, r2, r3) := by rw [if_neg (show ¬ (false = true) by decide)] at H; exact H
      clear H
      have H := H1
      clear H1
      have HC16 := Aside0.mk H
      clear H
      go_upto_region 6 with (fail)
      repeat (go_quiet (fail); go_upto_region 6 with (fail))
      go_cut [43] (fun v43 wc => ∃ (kq : Nat) (x43_15 : Bool), v43 = .bool x43_15 ∧ Aside0 (jsonparser_parseBracketPathComponent.j2 kq a0 a1 x7_1 x43_15 = some (r1, r2, r3)) ∧ Aside0 (kq ≤ kj2) ∧ Drawn0 w wc)
      case first =>
       have H := HC16.out
       clear HC16
       by_cases c17 : x7_1 = (a0.size : Int)
       ·
        rw [if_pos c17] at H
        have c17b0 : (x7_1 == (a0.size : Int)) = true := beq_iff_eq.mpr c17
        have c17b1 : (x7_1 != (a0.size : Int)) = false := bne_eq_false_iff_eq.mpr c17
        clear c17
        (first | rw [c17b0] | (simp only [i64_w, i32_w]; rw [c17b0]) | rw [c17b1] | skip)
        have H' := Aside0.mk H
        clear H
        go_wp2
        repeat (go_quiet (fail); try go_wp2)
        go_meet
        case rel => exact ⟨_, (true), (by first | rfl | (simp; done) | (simp [nil_ne_, nil_eq_]; done) | (simp [*]; done)), H', ⟨by have := HK1.out; have := HJ2.out; first | omega | exact Nat.le_refl _⟩, by repeat (first | exact Drawn0.refl _ | apply Drawn0.step)⟩
       ·
        rw [if_neg c17] at H
        have c17b0 : (x7_1 == (a0.size : Int)) = false := beq_eq_false_iff_ne.mpr c17
        have c17b1 : (x7_1 != (a0.size : Int)) = true := bne_iff_ne.mpr c17
        (first | rw [c17b0] | (simp only [i64_w, i32_w]; rw [c17b0]) | rw [c17b1] | skip)
        have H' := Aside0.mk H
        clear H
        go_wp2
        repeat (go_quiet (fail); try go_wp2)
        go_meet
        case rel => exact ⟨_, ((x7_1 == (wrap64 (a1 + 1)))), (by first | rfl | (simp; done) | (simp [nil_ne_, nil_eq_]; done) | (simp [*]; done)), H', ⟨by have := HK1.out; have := HJ2.out; first | omega | exact Nat.le_refl _⟩, by repeat (first | exact Drawn0.refl _ | apply Drawn0.step)⟩
      case rest =>
       clear HC16
       try clear c1
       try clear p1
       try clear q1
       try clear hx1
       try clear c2
       try clear p2
       try clear c4
       try clear c4b0
       try clear c4b1
       try clear c5
       try clear c5b0
       try clear p6
       try clear q6
       try clear hx6
       try clear c7
       try clear c8
       try clear c8b0
       try clear c9
       try clear c9b0
       try clear p10
       try clear q10
       try clear hx10
       try clear c11
       try clear c11b0
       try clear c11b1
       try clear p13
       try clear q13
       try clear hx13
       try clear c14
       try clear c14b0
       try clear c14b1
       try clear c17
       try clear c17b0
       try clear c17b1
       try clear p1
       try clear p10
       try clear p13
       try clear p2
       try clear p6
       try clear q10
       try clear q13
       try clear q6
       obtain ⟨kq, x43_15, rfl, HA, HJ15, ⟨mc15, rfl⟩⟩ := hcut
       cases kq with
       | zero => exact absurd HA.out (by simp [jsonparser_parseBracketPathComponent.j2])
       | succ kj15 =>
        have H := HA.out
        clear HA
        simp only [jsonparser_parseBracketPathComponent.j2] at H
        by_cases c18 : x43_15 = true
        ·
         subst c18
         have H1 : (some ((⟨#[]⟩ : ByteArray), 0, some 1)) = some (r1, r2, r3) := by rw [if_pos rfl] at H; exact H
         clear H
         have H := H1
         clear H1
         simp only [Option.some.injEq, Prod.mk.injEq] at H
         obtain ⟨rfl, rfl, rfl⟩ := H
         have hgl19 := hgv1.out
         go_wp2
         repeat (go_quiet (fail); try go_wp2)
         go_ret3
         exact ⟨(gt1, gp1), by first | rfl | (simp; done) | (simp [nil_ne_, nil_eq_]; done) | (simp [*]; done), by repeat (first | exact Drawn0.refl _ | apply Drawn0.step)⟩
        ·
         replace c18 := Bool.eq_false_iff.mpr c18
         subst c18
         have H1 : (if 0 ≤ (wrap64 (a1 + 1)) then (if (wrap64 (a1 + 1)) < (a0.size : Int) then (if (bt a0 (wrap64 (a1 + 1))) = 42 then (if x7_1 = (wrap64 (a1 + 2)) then (if 0 ≤ a1 then (if a1 ≤ (wrap64 (x7_1 + 1)) then (if (wrap64 (x7_1 + 1)) ≤ (a0.size : Int) then (some (a0.extract (a1 : Int).toNat ((wrap64 (x7_1 + 1)) : Int).toNat, wrap64 (x7_1 + 1), none)) else (none)) else (none)) else (none)) else (some ((⟨#[]⟩ : ByteArray), 0, some 1))) else (jsonparser_parseBracketPathComponent.l1 kj15 a0 a1 x7_1 (wrap64 (a1 + 1)))) else (none)) else (none)) = some (r1, r2, r3) := by rw [if_neg (show ¬ (false = true) by decide)] at H; exact H
         clear H
         have H := H1
         clear H1
         obtain ⟨ji20, hji20⟩ : ∃ j_ : Int, (wrap64 (a1 + 1)) = j_ := ⟨_, rfl⟩
         replace H : (if 0 ≤ (ji20) then (if (ji20) < (a0.size : Int) then (if (bt a0 (ji20)) = 42 then (if x7_1 = (wrap64 (a1 + 2)) then (if 0 ≤ a1 then (if a1 ≤ (wrap64 (x7_1 + 1)) then (if (wrap64 (x7_1 + 1)) ≤ (a0.size : Int) then (some (a0.extract (a1 : Int).toNat ((wrap64 (x7_1 + 1)) : Int).toNat, wrap64 (x7_1 + 1), none)) else (none)) else (none)) else (none)) else (some ((⟨#[]⟩ : ByteArray), 0, some 1))) else (jsonparser_parseBracketPathComponent.l1 kj15 a0 a1 x7_1 ji20)) else (none)) else (none)) = some (r1, r2, r3) := by first | (rw [hji20] at H; exact H) | (simp only [hji20] at H ⊢; exact H)
         have hji20w : (IntKind.i64.wrap (a1 + 1)) = ji20 := (i64_w _).trans hji20
         by_cases c21 : 0 ≤ (ji20)
         ·
          rw [if_pos c21] at H
          have c21b0 : decide (0 ≤ (ji20)) = true := decide_eq_true c21
          clear c21
          by_cases c22 : (ji20) < (a0.size : Int)
          ·
           rw [if_pos c22] at H
           have c22b0 : decide ((ji20) < (a0.size : Int)) = true := decide_eq_true c22
           clear c22
           by_cases c24 : (bt a0 (ji20)) = 42
           ·
            rw [if_pos c24] at H
            have c24b0 : ((bt a0 (ji20)) == 42) = true := beq_iff_eq.mpr c24
            have c24b1 : ((bt a0 (ji20)) != 42) = false := bne_eq_false_iff_eq.mpr c24
            clear c24
            by_cases c25 : x7_1 = (wrap64 (a1 + 2))
            ·
             rw [if_pos c25] at H
             have c25b0 : (x7_1 == (wrap64 (a1 + 2))) = true := beq_iff_eq.mpr c25
             have c25b1 : (x7_1 != (wrap64 (a1 + 2))) = false := bne_eq_false_iff_eq.mpr c25
             clear c25
             by_cases c26 : 0 ≤ a1
             ·
              rw [if_pos c26] at H
              have c26b0 := eq_true c26
              have c26b1 : decide (0 ≤ a1) = true := decide_eq_true c26
              clear c26
              by_cases c27 : a1 ≤ (wrap64 (x7_1 + 1))
              ·
               rw [if_pos c27] at H
               have c27b0 := eq_true c27
               have c27b1 : decide (a1 ≤ (wrap64 (x7_1 + 1))) = true := decide_eq_true c27
               by_cases c28 : (wrap64 (x7_1 + 1)) ≤ (a0.size : Int)
               ·
                rw [if_pos c28] at H
                have c28b0 := eq_true c28
                have c28b1 : decide ((wrap64 (x7_1 + 1)) ≤ (a0.size : Int)) = true := decide_eq_true c28
                simp only [Option.some.injEq, Prod.mk.injEq] at H
                obtain ⟨rfl, rfl, rfl⟩ := H
                have p23 : 0 ≤ ((ji20) : Int) := of_decide_eq_true (by first | (with_reducible assumption) | assumption)
                have q23 : (ji20) < (a0.size : Int) := of_decide_eq_true (by first | (with_reducible assumption) | assumption)
                have hx23 := bt_at a0 (ji20)
                replace p23 := eq_true p23
                replace q23 := eq_true q23
                go_wp2
                repeat (go_quiet (fail); try go_wp2)
                go_ret3
                exact ⟨(0, Value.nilIface), by first | rfl | (simp; done) | (simp only [← hji20] <;> (first | rfl | simp); done) | (simp [nil_ne_, nil_eq_]; done) | (simp [*]; done), by repeat (first | exact Drawn0.refl _ | apply Drawn0.step)⟩
               ·
                rw [if_neg c28] at H
                exact absurd H (by simp)
              ·
               rw [if_neg c27] at H
               exact absurd H (by simp)
             ·
              rw [if_neg c26] at H
              exact absurd H (by simp)
            ·
             rw [if_neg c25] at H
             have c25b0 : (x7_1 == (wrap64 (a1 + 2))) = false := beq_eq_false_iff_ne.mpr c25
             have c25b1 : (x7_1 != (wrap64 (a1 + 2))) = true := bne_iff_ne.mpr c25
             simp only [Option.some.injEq, Prod.mk.injEq] at H
             obtain ⟨rfl, rfl, rfl⟩ := H
             have p23 : 0 ≤ ((ji20) : Int) := of_decide_eq_true (by first | (with_reducible assumption) | assumption)
             have q23 : (ji20) < (a0.size : Int) := of_decide_eq_true (by first | (with_reducible assumption) | assumption)
             have hx23 := bt_at a0 (ji20)
             replace p23 := eq_true p23
             replace q23 := eq_true q23
             have hgl29 := hgv1.out
             go_wp2
             repeat (go_quiet (fail); try go_wp2)
             go_ret3
             exact ⟨(gt1, gp1), by first | rfl | (simp; done) | (simp only [← hji20] <;> (first | rfl | simp); done) | (simp [nil_ne_, nil_eq_]; done) | (simp [*]; done), by repeat (first | exact Drawn0.refl _ | apply Drawn0.step)⟩
           ·
            rw [if_neg c24] at H
            have c24b0 : ((bt a0 (ji20)) == 42) = false := beq_eq_false_iff_ne.mpr c24
            have c24b1 : ((bt a0 (ji20)) != 42) = true := bne_iff_ne.mpr c24
            have H' := Aside0.mk H
            clear H
            have p23 : 0 ≤ ((ji20) : Int) := of_decide_eq_true (by first | (with_reducible assumption) | assumption)
            have q23 : (ji20) < (a0.size : Int) := of_decide_eq_true (by first | (with_reducible assumption) | assumption)
            have hx23 := bt_at a0 (ji20)
            replace p23 := eq_true p23
            replace q23 := eq_true q23
            go_wp2
            repeat (go_quiet (fail); try go_wp2)
            try simp only [Act.put, List.setIfInBounds_toArray, List.set_cons_succ, List.set_cons_zero]
            go_loopg [8] kj15 (fun kq v8 w' => ∃ (x8_4 : Int), v8 = .int .i64 x8_4 ∧ Aside0 (jsonparser_parseBracketPathComponent.l1 kq a0 a1 x7_1 x8_4 = some (r1, r2, r3)) ∧ Aside0 (kq ≤ kj15) ∧ Drawn0 w w')
            case atStart => exact ⟨(ji20), (by first | rfl | (simp; done) | (simp only [← hji20] <;> (first | rfl | simp); done) | (simp [nil_ne_, nil_eq_]; done) | (simp [*]; done)), H', ⟨Nat.le_refl _⟩, by repeat (first | exact Drawn0.refl _ | apply Drawn0.step)⟩
            case round =>
             clear H'
             try clear c1
             try clear p1
             try clear q1
             try clear hx1
             try clear c2
             try clear p2
             try clear q2
             try clear hx2
             try clear c4
             try clear c4b0
             try clear c4b1
             try clear c5
             try clear c5b0
             try clear p6
             try clear q6
             try clear hx6
             try clear c7
             try clear c8
             try clear c8b0
             try clear c9
             try clear c9b0
             try clear p10
             try clear q10
             try clear hx10
             try clear c11
             try clear c11b0
             try clear c11b1
             try clear p13
             try clear q13
             try clear hx13
             try clear c14
             try clear c14b0
             try clear c14b1
             try clear c15
             try clear c17
             try clear c17b0
             try clear c17b1
             try clear c18
             try clear c21
             try clear c21b0
             try clear c22
             try clear c22b0
             try clear p23
             try clear q23
             try clear hx23
             try clear c24
             try clear c24b0
             try clear c24b1
             try clear c25
             try clear c25b0
             try clear c25b1
             try clear c26
             try clear c26b0
             try clear c26b1
             try clear c27
             try clear c27b0
             try clear c27b1
             try clear c28
             try clear c28b0
             try clear c28b1
             try clear p1
             try clear p10
             try clear p13
             try clear p2
             try clear p23
             try clear p6
             try clear q1
             try clear q10
             try clear q13
             try clear q23
             try clear q6
             obtain ⟨x8_4, rfl, HA, HK4, ⟨m4, rfl⟩⟩ := hrel
             cases gk with
             | zero => exact absurd HA.out (by simp [jsonparser_parseBracketPathComponent.l1])
             | succ k4 =>
              have H := HA.out
              clear HA
              simp only [jsonparser_parseBracketPathComponent.l1] at H
              by_cases c30 : x8_4 < x7_1
              ·
               rw [if_pos c30] at H
               have c30b0 : decide (x8_4 < x7_1) = true := decide_eq_true c30
               clear c30
               by_cases c31 : 0 ≤ x8_4
               ·
                rw [if_pos c31] at H
                have c31b0 : decide (0 ≤ x8_4) = true := decide_eq_true c31
                clear c31
                by_cases c32 : x8_4 < (a0.size : Int)
                ·
                 rw [if_pos c32] at H
                 have c32b0 : decide (x8_4 < (a0.size : Int)) = true := decide_eq_true c32
                 clear c32
                 by_cases c34 : (bt a0 x8_4) < 48
                 ·
                  rw [if_pos c34] at H
                  have c34b0 : decide ((bt a0 x8_4) < 48) = true := decide_eq_true c34
                  clear c34
                  simp only [Option.some.injEq, Prod.mk.injEq] at H
                  obtain ⟨rfl, rfl, rfl⟩ := H
                  have p33 : 0 ≤ (x8_4 : Int) := of_decide_eq_true (by first | (with_reducible assumption) | assumption)
                  have q33 : x8_4 < (a0.size : Int) := of_decide_eq_true (by first | (with_reducible assumption) | assumption)
                  have hx33 := bt_at a0 x8_4
                  replace p33 := eq_true p33
                  replace q33 := eq_true q33
                  have hgl35 := hgv1.out
                  go_wp2
                  repeat (go_quiet (fail); try go_wp2)
                  go_ret3
                  exact ⟨(gt1, gp1), by first | rfl | (simp; done) | (simp only [← hji20] <;> (first | rfl | simp); done) | (simp [nil_ne_, nil_eq_]; done) | (simp [*]; done), by repeat (first | exact Drawn0.refl _ | apply Drawn0.step)⟩
                 ·
                  rw [if_neg c34] at H
                  have c34b0 : decide ((bt a0 x8_4) < 48) = false := decide_eq_false c34
                  clear c34
                  by_cases c37 : (bt a0 x8_4) > 57
                  ·
                   rw [if_pos c37] at H
                   have c37b0 : decide (57 < (bt a0 x8_4)) = true := decide_eq_true c37
                   clear c37
                   simp only [Option.some.injEq, Prod.mk.injEq] at H
                   obtain ⟨rfl, rfl, rfl⟩ := H
                   have p33 : 0 ≤ (x8_4 : Int) := of_decide_eq_true (by first | (with_reducible assumption) | assumption)
                   have q33 : x8_4 < (a0.size : Int) := of_decide_eq_true (by first | (with_reducible assumption) | assumption)
                   have hx33 := bt_at a0 x8_4
                   replace p33 := eq_true p33
                   replace q33 := eq_true q33
                   have p36 : 0 ≤ (x8_4 : Int) := of_decide_eq_true (by first | (with_reducible assumption) | assumption)
                   have q36 : x8_4 < (a0.size : Int) := of_decide_eq_true (by first | (with_reducible assumption) | assumption)
                   have hx36 := bt_at a0 x8_4
                   replace p36 := eq_true p36
                   replace q36 := eq_true q36
                   have hgl38 := hgv1.out
                   go_wp2
                   repeat (go_quiet (fail); try go_wp2)
                   go_ret3
                   exact ⟨(gt1, gp1), by first | rfl | (simp; done) | (simp only [← hji20] <;> (first | rfl | simp); done) | (simp [nil_ne_, nil_eq_]; done) | (simp [*]; done), by repeat (first | exact Drawn0.refl _ | apply Drawn0.step)⟩
                  ·
                   rw [if_neg c37] at H
                   have c37b0 : decide (57 < (bt a0 x8_4)) = false := decide_eq_false c37
                   clear c37
                   have H' := Aside0.mk H
                   clear H
                   have p33 : 0 ≤ (x8_4 : Int) := of_decide_eq_true (by first | (with_reducible assumption) | assumption)
                   have q33 : x8_4 < (a0.size : Int) := of_decide_eq_true (by first | (with_reducible assumption) | assumption)
                   have hx33 := bt_at a0 x8_4
                   replace p33 := eq_true p33
                   replace q33 := eq_true q33
                   have p36 : 0 ≤ (x8_4 : Int) := of_decide_eq_true (by first | (with_reducible assumption) | assumption)
                   have q36 : x8_4 < (a0.size : Int) := of_decide_eq_true (by first | (with_reducible assumption) | assumption)
                   have hx36 := bt_at a0 x8_4
                   replace p36 := eq_true p36
                   replace q36 := eq_true q36
                   go_wp2
                   repeat (go_quiet (fail); try go_wp2)
                   go_roundg k4
                   case measure => have := HK1.out; have := HJ2.out; have := HJ15.out; have := HK4.out; omega
                   case rel => exact ⟨(wrap64 (x8_4 + 1)), (by first | rfl | (simp; done) | (simp [nil_ne_, nil_eq_]; done) | (simp [*]; done)), (by first | exact H' | (rw [hji20]; exact H') | (simp only [hji20]; exact H') | (simp only [hji20] at H' ⊢; exact H')), ⟨by have := HK1.out; have := HJ2.out; have := HJ15.out; have := HK4.out; omega⟩, by repeat (first | exact Drawn0.refl _ | apply Drawn0.step)⟩
                ·
                 rw [if_neg c32] at H
                 exact absurd H (by simp)
               ·
                rw [if_neg c31] at H
                exact absurd H (by simp)
              ·
               rw [if_neg c30] at H
               have c30b0 : decide (x8_4 < x7_1) = false := decide_eq_false c30
               clear c30
               by_cases c39 : 0 ≤ a1
               ·
                rw [if_pos c39] at H
                have c39b0 := eq_true c39
                have c39b1 : decide (0 ≤ a1) = true := decide_eq_true c39
                clear c39
                by_cases c40 : a1 ≤ (wrap64 (x7_1 + 1))
                ·
                 rw [if_pos c40] at H
                 have c40b0 := eq_true c40
                 have c40b1 : decide (a1 ≤ (wrap64 (x7_1 + 1))) = true := decide_eq_true c40
                 by_cases c41 : (wrap64 (x7_1 + 1)) ≤ (a0.size : Int)
                 ·
                  rw [if_pos c41] at H
                  have c41b0 := eq_true c41
                  have c41b1 : decide ((wrap64 (x7_1 + 1)) ≤ (a0.size : Int)) = true := decide_eq_true c41
                  simp only [Option.some.injEq, Prod.mk.injEq] at H
                  obtain ⟨rfl, rfl, rfl⟩ := H
                  go_wp2
                  repeat (go_quiet (fail); try go_wp2)
                  go_ret3
                  exact ⟨(0, Value.nilIface), by first | rfl | (simp; done) | (simp only [← hji20] <;> (first | rfl | simp); done) | (simp [nil_ne_, nil_eq_]; done) | (simp [*]; done), by repeat (first | exact Drawn0.refl _ | apply Drawn0.step)⟩
                 ·
                  rw [if_neg c41] at H
                  exact absurd H (by simp)
                ·
                 rw [if_neg c40] at H
                 exact absurd H (by simp)
               ·
                rw [if_neg c39] at H
                exact absurd H (by simp)
          ·
           rw [if_neg c22] at H
           exact absurd H (by simp)
         ·
          rw [if_neg c21] at H
          exact absurd H (by simp)

end Go.Proofs.YtobmnfbplmefoaaDoor.PFnJqPathOf
