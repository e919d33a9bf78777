/- what the Go functions that the law FnFjCheckObject reaches compute, each as a plain function, with the proof that the Go code computes just that; no condition beside those that each theorem states. -/
import Derived.Test.YtdhiihegfdmokaaDoorPFnFjCheckObjectx0
import Derived.Test.YtdhiihegfdmokaaDoorHEFnFjCheckObject
namespace Go.Proofs.YtdhiihegfdmokaaDoor.PFnFjCheckObject
open Go.RowKit Go.Proofs.YtdhiihegfdmokaaDoorW.PrintWords Go.Proofs.YtdhiihegfdmokaaDoorW.PrintLast Go.Proofs.YtdhiihegfdmokaaDoorW.PrintMore
set_option linter.unusedVariables false
set_option linter.unusedSimpArgs false
mutual
def fastjson_validateNumber.j0 : Nat → ByteArray → Option (ByteArray × Option Int)
  | 0, _ => none
  | k + 1, x0 => fastjson_validateNumber.l0 k x0 0
def fastjson_validateNumber.j2 : Nat → ByteArray → Int → Option (ByteArray × Option Int)
  | 0, _, _ => none
  | k + 1, x0, x4 => if x4 ≤ 0 then ((errors_New.f (⟨#[101, 120, 112, 101, 99, 116, 105, 110, 103, 32, 48, 46, 46, 57, 32, 100, 105, 103, 105, 116, 44, 32, 103, 111, 116]⟩ : ByteArray)).bind fun t312 => (some (x0, t312))) else (if 0 < (x0.size : Int) then (if (bt x0 0) = 48 then (fastjson_validateNumber.j3 k x0 x4 (x4 != 1)) else (fastjson_validateNumber.j3 k x0 x4 false)) else (none))
def fastjson_validateNumber.j3 : Nat → ByteArray → Int → Bool → Option (ByteArray × Option Int)
  | 0, _, _, _ => none
  | k + 1, x0, x4, x46 => if x46 = true then ((errors_New.f (⟨#[117, 110, 101, 120, 112, 101, 99, 116, 101, 100, 32, 110, 117, 109, 98, 101, 114, 32, 115, 116, 97, 114, 116, 105, 110, 103, 32, 102, 114, 111, 109, 32, 48]⟩ : ByteArray)).bind fun t313 => (some (x0, t313))) else (if x4 ≥ (x0.size : Int) then (some ((⟨#[]⟩ : ByteArray), none)) else (if 0 ≤ x4 then (if x4 < (x0.size : Int) then (if (bt x0 x4) = 46 then (if 0 ≤ (wrap64 (x4 + 1)) then (if (wrap64 (x4 + 1)) ≤ (x0.size : Int) then (if ((x0.extract ((wrap64 (x4 + 1)) : Int).toNat x0.size).size : Int) = 0 then ((errors_New.f (⟨#[109, 105, 115, 115, 105, 110, 103, 32, 102, 114, 97, 99, 116, 105, 111, 110, 97, 108, 32, 112, 97, 114, 116]⟩ : ByteArray)).bind fun t314 => (some (x0.extract ((wrap64 (x4 + 1)) : Int).toNat x0.size, t314))) else (fastjson_validateNumber.l1 k (x0.extract ((wrap64 (x4 + 1)) : Int).toNat x0.size) 0)) else (none)) else (none)) else (fastjson_validateNumber.j6 k x0 x4)) else (none)) else (none)))
def fastjson_validateNumber.j6 : Nat → ByteArray → Int → Option (ByteArray × Option Int)
  | 0, _, _ => none
  | k + 1, x0, x4 => if 0 ≤ x4 then (if x4 < (x0.size : Int) then (if (bt x0 x4) = 101 then (fastjson_validateNumber.j7 k x0 x4 true) else (fastjson_validateNumber.j7 k x0 x4 ((bt x0 x4) == 69))) else (none)) else (none)
def fastjson_validateNumber.j7 : Nat → ByteArray → Int → Bool → Option (ByteArray × Option Int)
  | 0, _, _, _ => none
  | k + 1, x0, x4, x99 => if x99 = true then (if 0 ≤ (wrap64 (x4 + 1)) then (if (wrap64 (x4 + 1)) ≤ (x0.size : Int) then (if ((x0.extract ((wrap64 (x4 + 1)) : Int).toNat x0.size).size : Int) = 0 then ((errors_New.f (⟨#[109, 105, 115, 115, 105, 110, 103, 32, 101, 120, 112, 111, 110, 101, 110, 116, 32, 112, 97, 114, 116]⟩ : ByteArray)).bind fun t316 => (some (x0.extract ((wrap64 (x4 + 1)) : Int).toNat x0.size, t316))) else (if 0 < ((x0.extract ((wrap64 (x4 + 1)) : Int).toNat x0.size).size : Int) then (if (bt (x0.extract ((wrap64 (x4 + 1)) : Int).toNat x0.size) 0) = 45 then (fastjson_validateNumber.j8 k (x0.extract ((wrap64 (x4 + 1)) : Int).toNat x0.size) true) else (fastjson_validateNumber.j8 k (x0.extract ((wrap64 (x4 + 1)) : Int).toNat x0.size) ((bt (x0.extract ((wrap64 (x4 + 1)) : Int).toNat x0.size) 0) == 43))) else (none))) else (none)) else (none)) else (if 0 ≤ x4 then (if x4 ≤ (x0.size : Int) then (some (x0.extract (x4 : Int).toNat x0.size, none)) else (none)) else (none))
def fastjson_validateNumber.j8 : Nat → ByteArray → Bool → Option (ByteArray × Option Int)
  | 0, _, _ => none
  | k + 1, x0, x116 => if x116 = true then (if 1 ≤ (x0.size : Int) then (if ((x0.extract 1 x0.size).size : Int) = 0 then ((errors_New.f (⟨#[109, 105, 115, 115, 105, 110, 103, 32, 101, 120, 112, 111, 110, 101, 110, 116, 32, 112, 97, 114, 116]⟩ : ByteArray)).bind fun t317 => (some (x0.extract 1 x0.size, t317))) else (fastjson_validateNumber.j9 k (x0.extract 1 x0.size))) else (none)) else (fastjson_validateNumber.j9 k x0)
def fastjson_validateNumber.j9 : Nat → ByteArray → Option (ByteArray × Option Int)
  | 0, _ => none
  | k + 1, x0 => fastjson_validateNumber.l2 k x0 0
def fastjson_validateNumber.j11 : Nat → ByteArray → Int → Option (ByteArray × Option Int)
  | 0, _, _ => none
  | k + 1, x0, x4 => if x4 = 0 then ((errors_New.f (⟨#[101, 120, 112, 101, 99, 116, 105, 110, 103, 32, 48, 46, 46, 57, 32, 100, 105, 103, 105, 116, 32, 105, 110, 32, 101, 120, 112, 111, 110, 101, 110, 116, 32, 112, 97, 114, 116, 44, 32, 103, 111, 116]⟩ : ByteArray)).bind fun t318 => (some (x0, t318))) else (if x4 ≥ (x0.size : Int) then (some ((⟨#[]⟩ : ByteArray), none)) else (if 0 ≤ x4 then (if x4 ≤ (x0.size : Int) then (some (x0.extract (x4 : Int).toNat x0.size, none)) else (none)) else (none)))
def fastjson_validateNumber.l2 : Nat → ByteArray → Int → Option (ByteArray × Option Int)
  | 0, _, _ => none
  | k + 1, x0, x4 => if x4 < (x0.size : Int) then (if 0 ≤ x4 then (if (bt x0 x4) < 48 then (fastjson_validateNumber.j11 k x0 x4) else (if (bt x0 x4) > 57 then (fastjson_validateNumber.j11 k x0 x4) else (fastjson_validateNumber.l2 k x0 (wrap64 (x4 + 1))))) else (none)) else (fastjson_validateNumber.j11 k x0 x4)
def fastjson_validateNumber.j5 : Nat → ByteArray → Int → Option (ByteArray × Option Int)
  | 0, _, _ => none
  | k + 1, x0, x4 => if x4 = 0 then ((errors_New.f (⟨#[101, 120, 112, 101, 99, 116, 105, 110, 103, 32, 48, 46, 46, 57, 32, 100, 105, 103, 105, 116, 32, 105, 110, 32, 102, 114, 97, 99, 116, 105, 111, 110, 97, 108, 32, 112, 97, 114, 116, 44, 32, 103, 111, 116]⟩ : ByteArray)).bind fun t315 => (some (x0, t315))) else (if x4 ≥ (x0.size : Int) then (some ((⟨#[]⟩ : ByteArray), none)) else (fastjson_validateNumber.j6 k x0 x4))
def fastjson_validateNumber.l1 : Nat → ByteArray → Int → Option (ByteArray × Option Int)
  | 0, _, _ => none
  | k + 1, x0, x4 => if x4 < (x0.size : Int) then (if 0 ≤ x4 then (if (bt x0 x4) < 48 then (fastjson_validateNumber.j5 k x0 x4) else (if (bt x0 x4) > 57 then (fastjson_validateNumber.j5 k x0 x4) else (fastjson_validateNumber.l1 k x0 (wrap64 (x4 + 1))))) else (none)) else (fastjson_validateNumber.j5 k x0 x4)
def fastjson_validateNumber.l0 : Nat → ByteArray → Int → Option (ByteArray × Option Int)
  | 0, _, _ => none
  | k + 1, x0, x4 => if x4 < (x0.size : Int) then (if 0 ≤ x4 then (if (bt x0 x4) < 48 then (fastjson_validateNumber.j2 k x0 x4) else (if (bt x0 x4) > 57 then (fastjson_validateNumber.j2 k x0 x4) else (fastjson_validateNumber.l0 k x0 (wrap64 (x4 + 1))))) else (none)) else (fastjson_validateNumber.j2 k x0 x4)
end
def fastjson_validateNumber.f (k : Nat) (a0 : ByteArray) : Option (ByteArray × Option Int) := if (a0.size : Int) = 0 then ((errors_New.f (⟨#[122, 101, 114, 111, 45, 108, 101, 110, 103, 116, 104, 32, 110, 117, 109, 98, 101, 114]⟩ : ByteArray)).bind fun t310 => (some (a0, t310))) else (if 0 < (a0.size : Int) then (if (bt a0 0) = 45 then (if 1 ≤ (a0.size : Int) then (if ((a0.extract 1 a0.size).size : Int) = 0 then ((errors_New.f (⟨#[109, 105, 115, 115, 105, 110, 103, 32, 110, 117, 109, 98, 101, 114, 32, 97, 102, 116, 101, 114, 32, 109, 105, 110, 117, 115]⟩ : ByteArray)).bind fun t311 => (some (a0.extract 1 a0.size, t311))) else (fastjson_validateNumber.j0 k (a0.extract 1 a0.size))) else (none)) else (fastjson_validateNumber.j0 k a0)) else (none))
set_option maxHeartbeats 8000000 in
set_option maxRecDepth 100000 in
theorem fastjson_validateNumber.calls (k : Nat) (a0 : ByteArray) (r1 : ByteArray) (r2 : Option Int) (w : World) (h : fastjson_validateNumber.f k a0 = some (r1, r2)) :
    Calls Tryd.prog 57 #[.string a0] w fun e w' => ∃ evr2 : TypeId × Value, e = .returned (.tuple #[.string r1, errX r2 evr2]) ∧ Below w.heap.size w w' := by
 have HB := Aside0.mk (Below.refl w.heap.size w)
 have H : (if (a0.size : Int) = 0 then ((errors_New.f (⟨#[122, 101, 114, 111, 45, 108, 101, 110, 103, 116, 104, 32, 110, 117, 109, 98, 101, 114]⟩ : ByteArray)).bind fun t310 => (some (a0, t310))) else (if 0 < (a0.size : Int) then (if (bt a0 0) = 45 then (if 1 ≤ (a0.size : Int) then (if ((a0.extract 1 a0.size).size : Int) = 0 then ((errors_New.f (⟨#[109, 105, 115, 115, 105, 110, 103, 32, 110, 117, 109, 98, 101, 114, 32, 97, 102, 116, 101, 114, 32, 109, 105, 110, 117, 115]⟩ : ByteArray)).bind fun t311 => (some (a0.extract 1 a0.size, t311))) else (fastjson_validateNumber.j0 k (a0.extract 1 a0.size))) else (none)) else (fastjson_validateNumber.j0 k a0)) else (none))) = some (r1, r2) := h
 clear h
 by_cases c2 : (a0.size : Int) = 0
 ·
  rw [if_pos c2] at H
  have c2b0 : ((a0.size : Int) == 0) = true := beq_iff_eq.mpr c2
  have c2b1 : ((a0.size : Int) != 0) = false := bne_eq_false_iff_eq.mpr c2
  clear c2
  replace H := Option.bind_eq_some_iff.mp H
  obtain ⟨t310, A30, H⟩ := H
  replace H : (some (a0, t310)) = some (r1, r2) := H
  have A3 := Aside0.mk A30
  clear A30
  simp only [Option.some.injEq, Prod.mk.injEq] at H
  obtain ⟨rfl, rfl⟩ := H
  go_enter Tryd.func57, Tryd.ntmps57
  go_wp2_with (first | ((with_reducible refine gate_callee (f := 37) rfl ?_); refine goesL_ (some 9) rfl rfl Tryd.func37 (by kernel_rfl) rfl #[.string (⟨#[122, 101, 114, 111, 45, 108, 101, 110, 103, 116, 104, 32, 110, 117, 109, 98, 101, 114]⟩ : ByteArray)] rfl (by (try simp only [List.map_toArray, List.map_cons, List.map_nil]); first | done | rfl | (simp only [List.length_drop, List.length_take]; rfl)) ?_; (with_reducible refine (errors_New.calls (⟨#[122, 101, 114, 111, 45, 108, 101, 110, 103, 116, 104, 32, 110, 117, 109, 98, 101, 114]⟩ : ByteArray) t310 _ A3.out).mono ?_); rintro e w4 ⟨evt310, rfl, hb⟩; refine ⟨_, rfl, ?_⟩; have n0_ := Aside0.mk (below_step (by repeat (first | (with_reducible first | exact HB.out | apply below_alloc | apply pw_below_drewN | apply below_drew1) | exact HB.out)) hb); clear HB; have HB := n0_; clear n0_; (try clear hb); (try clear hb2); (try clear hk); (try clear hi); (try simp only [errX_none, errX_some])))
  go_ret2
  first | exact ⟨evt310, by first | rfl | (simp [errX_none, errX_some] <;> rfl) | (simp [*, errX_none, errX_some] <;> rfl), by repeat (first | (with_reducible first | exact HB.out | apply below_alloc | apply pw_below_drewN | apply below_drew1) | exact HB.out)⟩ | exact ⟨⟨(evt310).1, (evt310).2, by first | rfl | (simp [errX_none, errX_some] <;> rfl) | (simp [*, errX_none, errX_some] <;> rfl)⟩, by repeat (first | (with_reducible first | exact HB.out | apply below_alloc | apply pw_below_drewN | apply below_drew1) | exact HB.out)⟩
 rw [if_neg c2] at H
 have c2b0 : ((a0.size : Int) == 0) = false := beq_eq_false_iff_ne.mpr c2
 have c2b1 : ((a0.size : Int) != 0) = true := bne_iff_ne.mpr c2
 by_cases c5 : 0 < (a0.size : Int)
 ·
  rw [if_pos c5] at H
  have c5b0 : decide (0 < (a0.size : Int)) = true := decide_eq_true c5
  have c5b1 : decide (0 < a0.size) = true := decide_eq_true (by omega)
  clear c5
  have HC7 := Aside0.mk H
  clear H
  have p6 : 0 ≤ (0 : Int) := (by omega)
  have q6 : 0 < a0.size := (by have : (0 : Int) < (a0.size : Int) := of_decide_eq_true (by first | (with_reducible assumption) | assumption); omega)
  have hx6 := bt_lit a0 0 0 rfl
  clear p6
  have qi6 : (0 < (a0.size : Int)) = True := eq_true (of_decide_eq_true (by first | (with_reducible assumption) | assumption))
  replace q6 := eq_true q6
  go_enter Tryd.func57, Tryd.ntmps57
  go_upto_if 12 with (fail)
  go_cut [0] (fun v0 wc => ∃ (kq : Nat) (x0_6 : ByteArray), v0 = .string x0_6 ∧ Aside0 (fastjson_validateNumber.j0 kq x0_6 = some (r1, r2)) ∧ Aside0 (kq ≤ k) ∧ Aside0 (Below w.heap.size w wc))
  case first =>
   have H := HC7.out
   clear HC7
   by_cases c8 : (bt a0 0) = 45
   ·
    rw [if_pos c8] at H
    have c8b0 : ((bt a0 0) == 45) = true := beq_iff_eq.mpr c8
    have c8b1 : ((bt a0 0) != 45) = false := bne_eq_false_iff_eq.mpr c8
    clear c8
    (first | rw [c8b0] | (simp only [i64_w, i32_w]; rw [c8b0]) | rw [c8b1] | skip)
    by_cases c9 : 1 ≤ (a0.size : Int)
    ·
     rw [if_pos c9] at H
     have c9b0 := eq_true c9
     have c9b1 : decide (1 ≤ (a0.size : Int)) = true := decide_eq_true c9
     clear c9
     obtain ⟨js10, hjs10⟩ : ∃ j_ : ByteArray, (a0.extract 1 a0.size) = j_ := ⟨_, rfl⟩
     skip
     replace H : (if (js10.size : Int) = 0 then ((errors_New.f (⟨#[109, 105, 115, 115, 105, 110, 103, 32, 110, 117, 109, 98, 101, 114, 32, 97, 102, 116, 101, 114, 32, 109, 105, 110, 117, 115]⟩ : ByteArray)).bind fun t311 => (some (js10, t311))) else (fastjson_validateNumber.j0 k js10)) = some (r1, r2) := by first | (rw [hjs10] at H; exact H) | (simp only [hjs10] at H ⊢; exact H)
     by_cases c11 : (js10.size : Int) = 0
     ·
      rw [if_pos c11] at H
      have c11b0 : ((js10.size : Int) == 0) = true := beq_iff_eq.mpr c11
      have c11b1 : ((js10.size : Int) != 0) = false := bne_eq_false_iff_eq.mpr c11
      clear c11
      replace H := Option.bind_eq_some_iff.mp H
      obtain ⟨t311, A120, H⟩ := H
      replace H : (some (js10, t311)) = some (r1, r2) := H
      have A12 := Aside0.mk A120
      clear A120
      simp only [Option.some.injEq, Prod.mk.injEq] at H
      obtain ⟨rfl, rfl⟩ := H
      go_wp2_with (first | ((with_reducible refine gate_callee (f := 37) rfl ?_); refine goesL_ (some 19) rfl rfl Tryd.func37 (by kernel_rfl) rfl #[.string (⟨#[109, 105, 115, 115, 105, 110, 103, 32, 110, 117, 109, 98, 101, 114, 32, 97, 102, 116, 101, 114, 32, 109, 105, 110, 117, 115]⟩ : ByteArray)] rfl (by (try simp only [List.map_toArray, List.map_cons, List.map_nil]); first | done | rfl | (simp only [List.length_drop, List.length_take]; rfl)) ?_; (with_reducible refine (errors_New.calls (⟨#[109, 105, 115, 115, 105, 110, 103, 32, 110, 117, 109, 98, 101, 114, 32, 97, 102, 116, 101, 114, 32, 109, 105, 110, 117, 115]⟩ : ByteArray) t311 _ A12.out).mono ?_); rintro e w13 ⟨evt311, rfl, hb⟩; refine ⟨_, rfl, ?_⟩; have n0_ := Aside0.mk (below_step (by repeat (first | (with_reducible first | exact HB.out | apply below_alloc | apply pw_below_drewN | apply below_drew1) | exact HB.out)) hb); clear HB; have HB := n0_; clear n0_; (try clear hb); (try clear hb2); (try clear hk); (try clear hi); (try simp only [errX_none, errX_some])))
      go_ret2
      first | exact ⟨evt311, by first | rfl | (simp [errX_none, errX_some] <;> rfl) | (simp only [← hjs10]; first | rfl | (simp [errX_none, errX_some] <;> rfl)) | (simp [*, errX_none, errX_some] <;> rfl), by repeat (first | (with_reducible first | exact HB.out | apply below_alloc | apply pw_below_drewN | apply below_drew1) | exact HB.out)⟩ | exact ⟨⟨(evt311).1, (evt311).2, by first | rfl | (simp [errX_none, errX_some] <;> rfl) | (simp only [← hjs10]; first | rfl | (simp [errX_none, errX_some] <;> rfl)) | (simp [*, errX_none, errX_some] <;> rfl)⟩, by repeat (first | (with_reducible first | exact HB.out | apply below_alloc | apply pw_below_drewN | apply below_drew1) | exact HB.out)⟩
     rw [if_neg c11] at H
     have c11b0 : ((js10.size : Int) == 0) = false := beq_eq_false_iff_ne.mpr c11
     have c11b1 : ((js10.size : Int) != 0) = true := bne_iff_ne.mpr c11
     have H' := Aside0.mk H
     clear H
     go_wp2
     go_meet
     case rel => exact ⟨_, (js10), (by first | rfl | (simp; done) | (simp only [← hjs10] <;> (first | rfl | simp); done) | (simp [nil_ne_, nil_eq_]; done) | (simp [*]; done)), (by first | exact H' | (rw [hjs10]; exact H') | (simp only [hjs10]; exact H') | (simp only [hjs10] at H' ⊢; exact H')), ⟨by first | omega | exact Nat.le_refl _⟩, ⟨by repeat (first | (with_reducible first | exact HB.out | apply below_alloc | apply pw_below_drewN | apply below_drew1) | exact HB.out)⟩⟩
    rw [if_neg c9] at H
    exact absurd H (by simp)
   rw [if_neg c8] at H
   have c8b0 : ((bt a0 0) == 45) = false := beq_eq_false_iff_ne.mpr c8
   have c8b1 : ((bt a0 0) != 45) = true := bne_iff_ne.mpr c8
   (first | rw [c8b0] | (simp only [i64_w, i32_w]; rw [c8b0]) | rw [c8b1] | skip)
   have H' := Aside0.mk H
   clear H
   go_wp2
   go_meet
   case rel => exact ⟨_, (a0), (by first | rfl | (simp; done) | (simp [nil_ne_, nil_eq_]; done) | (simp [*]; done)), H', ⟨by first | omega | exact Nat.le_refl _⟩, ⟨by repeat (first | (with_reducible first | exact HB.out | apply below_alloc | apply pw_below_drewN | apply below_drew1) | exact HB.out)⟩⟩
  clear HC7
  try clear c1
  try clear c2
  try clear c2b0
  try clear c2b1
  try clear p2
  try clear c3
  try clear c5
  try clear c5b0
  try clear c5b1
  try clear p6
  try clear q6
  try clear hx6
  try clear qi6
  try clear c8
  try clear c8b0
  try clear c8b1
  try clear c9
  try clear c9b0
  try clear c9b1
  try clear c11
  try clear c11b0
  try clear c11b1
  try clear p6
  try clear q6
  obtain ⟨kq, x0_6, rfl, HA, HJ6, HB⟩ := hcut
  rcases kq with _ | kj6
  · exact absurd HA.out (by simp [fastjson_validateNumber.j0])
  have H := HA.out
  clear HA
  simp only [fastjson_validateNumber.j0] at H
  have HC14 := Aside0.mk H
  clear H
  go_upto_block 0 with (fail)
  go_cut [4] (fun v4 wc => ∃ (kq : Nat) (x4_13 : Int), v4 = .int .i64 x4_13 ∧ Aside0 (fastjson_validateNumber.j2 kq x0_6 x4_13 = some (r1, r2)) ∧ Aside0 (kq ≤ kj6) ∧ Aside0 (Below w.heap.size w wc))
  case first =>
   have H := HC14.out
   clear HC14
   have H' := Aside0.mk H
   clear H
   go_wp2
   try simp only [Act.put, List.setIfInBounds_toArray, List.set_cons_succ, List.set_cons_zero]
   go_loopg [4] kj6 (fun kq v4 w' => ∃ (x4_2 : Int), v4 = .int .i64 x4_2 ∧ Aside0 (fastjson_validateNumber.l0 kq x0_6 x4_2 = some (r1, r2)) ∧ Aside0 (kq ≤ kj6) ∧ Aside0 (Below w.heap.size w w'))
   case atStart => exact ⟨(0), (by first | rfl | (simp; done) | (simp [nil_ne_, nil_eq_]; done) | (simp [*]; done)), H', ⟨Nat.le_refl _⟩, ⟨by repeat (first | (with_reducible first | exact HB.out | apply below_alloc | apply pw_below_drewN | apply below_drew1) | exact HB.out)⟩⟩
   case round =>
    clear H'
    try clear c1
    try clear c2
    try clear c2b0
    try clear c2b1
    try clear p2
    try clear c3
    try clear c5
    try clear c5b0
    try clear c5b1
    try clear p6
    try clear q6
    try clear hx6
    try clear qi6
    try clear c8
    try clear c8b0
    try clear c8b1
    try clear c9
    try clear c9b0
    try clear c9b1
    try clear c11
    try clear c11b0
    try clear c11b1
    try clear p2
    try clear p6
    try clear q6
    obtain ⟨x4_2, rfl, HA, HK2, HB⟩ := hrel
    rcases gk with _ | k2
    · exact absurd HA.out (by simp [fastjson_validateNumber.l0])
    have H := HA.out
    clear HA
    simp only [fastjson_validateNumber.l0] at H
    by_cases c15 : x4_2 < (x0_6.size : Int)
    ·
     rw [if_pos c15] at H
     have c15b0 : decide (x4_2 < (x0_6.size : Int)) = true := decide_eq_true c15
     clear c15
     (first | rw [c15b0] | (simp only [i64_w, i32_w]; rw [c15b0]) | rw [c15b1] | skip)
     by_cases c16 : 0 ≤ x4_2
     ·
      rw [if_pos c16] at H
      have c16b0 : decide (0 ≤ x4_2) = true := decide_eq_true c16
      clear c16
      by_cases c18 : (bt x0_6 x4_2) < 48
      ·
       rw [if_pos c18] at H
       have c18b0 : decide ((bt x0_6 x4_2) < 48) = true := decide_eq_true c18
       clear c18
       have H' := Aside0.mk H
       clear H
       have p17 : 0 ≤ (x4_2 : Int) := of_decide_eq_true (by first | (with_reducible assumption) | assumption)
       have q17 : x4_2 < (x0_6.size : Int) := of_decide_eq_true (by first | (with_reducible assumption) | assumption)
       have hx17 := bt_at x0_6 x4_2
       replace p17 := eq_true p17
       replace q17 := eq_true q17
       go_wp2
       go_meet
       case rel => exact ⟨_, (x4_2), (by first | rfl | (simp; done) | (simp [nil_ne_, nil_eq_]; done) | (simp [*]; done)), H', ⟨by have := HJ6.out; have := HK2.out; first | omega | exact Nat.le_refl _⟩, ⟨by repeat (first | (with_reducible first | exact HB.out | apply below_alloc | apply pw_below_drewN | apply below_drew1) | exact HB.out)⟩⟩
      rw [if_neg c18] at H
      have c18b0 : decide ((bt x0_6 x4_2) < 48) = false := decide_eq_false c18
      clear c18
      by_cases c20 : (bt x0_6 x4_2) > 57
      ·
       rw [if_pos c20] at H
       have c20b0 : decide (57 < (bt x0_6 x4_2)) = true := decide_eq_true c20
       clear c20
       have H' := Aside0.mk H
       clear H
       have p17 : 0 ≤ (x4_2 : Int) := of_decide_eq_true (by first | (with_reducible assumption) | assumption)
       have q17 : x4_2 < (x0_6.size : Int) := of_decide_eq_true (by first | (with_reducible assumption) | assumption)
       have hx17 := bt_at x0_6 x4_2
       replace p17 := eq_true p17
       replace q17 := eq_true q17
       have p19 : 0 ≤ (x4_2 : Int) := of_decide_eq_true (by first | (with_reducible assumption) | assumption)
       have q19 : x4_2 < (x0_6.size : Int) := of_decide_eq_true (by first | (with_reducible assumption) | assumption)
       have hx19 := bt_at x0_6 x4_2
       replace p19 := eq_true p19
       replace q19 := eq_true q19
       go_wp2
       go_meet
       case rel => exact ⟨_, (x4_2), (by first | rfl | (simp; done) | (simp [nil_ne_, nil_eq_]; done) | (simp [*]; done)), H', ⟨by have := HJ6.out; have := HK2.out; first | omega | exact Nat.le_refl _⟩, ⟨by repeat (first | (with_reducible first | exact HB.out | apply below_alloc | apply pw_below_drewN | apply below_drew1) | exact HB.out)⟩⟩
      rw [if_neg c20] at H
      have c20b0 : decide (57 < (bt x0_6 x4_2)) = false := decide_eq_false c20
      clear c20
      have H' := Aside0.mk H
      clear H
      have p17 : 0 ≤ (x4_2 : Int) := of_decide_eq_true (by first | (with_reducible assumption) | assumption)
      have q17 : x4_2 < (x0_6.size : Int) := of_decide_eq_true (by first | (with_reducible assumption) | assumption)
      have hx17 := bt_at x0_6 x4_2
      replace p17 := eq_true p17
      replace q17 := eq_true q17
      have p19 : 0 ≤ (x4_2 : Int) := of_decide_eq_true (by first | (with_reducible assumption) | assumption)
      have q19 : x4_2 < (x0_6.size : Int) := of_decide_eq_true (by first | (with_reducible assumption) | assumption)
      have hx19 := bt_at x0_6 x4_2
      replace p19 := eq_true p19
      replace q19 := eq_true q19
      go_wp2
      go_roundg k2
      case measure => have := HJ6.out; have := HK2.out; omega
      case rel => exact ⟨(wrap64 (x4_2 + 1)), (by first | rfl | (simp; done) | (simp [nil_ne_, nil_eq_]; done) | (simp [*]; done)), H', ⟨by have := HJ6.out; have := HK2.out; omega⟩, ⟨by repeat (first | (with_reducible first | exact HB.out | apply below_alloc | apply pw_below_drewN | apply below_drew1) | exact HB.out)⟩⟩
     rw [if_neg c16] at H
     exact absurd H (by simp)
    rw [if_neg c15] at H
    have c15b0 : decide (x4_2 < (x0_6.size : Int)) = false := decide_eq_false c15
    clear c15
    (first | rw [c15b0] | (simp only [i64_w, i32_w]; rw [c15b0]) | rw [c15b1] | skip)
    have H' := Aside0.mk H
    clear H
    go_wp2
    go_meet
    case rel => exact ⟨_, (x4_2), (by first | rfl | (simp; done) | (simp [nil_ne_, nil_eq_]; done) | (simp [*]; done)), H', ⟨by have := HJ6.out; have := HK2.out; first | omega | exact Nat.le_refl _⟩, ⟨by repeat (first | (with_reducible first | exact HB.out | apply below_alloc | apply pw_below_drewN | apply below_drew1) | exact HB.out)⟩⟩
  clear HC14
  try clear c1
  try clear p1
  try clear q1
  try clear hx1
  try clear c2
  try clear c2b0
  try clear c2b1
  try clear p2
  try clear c3
  try clear c5
  try clear c5b0
  try clear c5b1
  try clear p6
  try clear q6
  try clear hx6
  try clear qi6
  try clear c8
  try clear c8b0
  try clear c8b1
  try clear c9
  try clear c9b0
  try clear c9b1
  try clear c11
  try clear c11b0
  try clear c11b1
  try clear c15
  try clear c15b0
  try clear c15b1
  try clear c16
  try clear c16b0
  try clear p17
  try clear q17
  try clear hx17
  try clear c18
  try clear c18b0
  try clear p19
  try clear q19
  try clear hx19
  try clear c20
  try clear c20b0
  try clear p17
  try clear p19
  try clear p2
  try clear p6
  try clear q17
  try clear q19
  try clear q6
  obtain ⟨kq, x4_13, rfl, HA, HJ13, HB⟩ := hcut
  rcases kq with _ | kj13
  · exact absurd HA.out (by simp [fastjson_validateNumber.j2])
  have H := HA.out
  clear HA
  simp only [fastjson_validateNumber.j2] at H
  by_cases c21 : x4_13 ≤ 0
  ·
   rw [if_pos c21] at H
   have c21b0 : decide (x4_13 ≤ 0) = true := decide_eq_true c21
   clear c21
   replace H := Option.bind_eq_some_iff.mp H
   obtain ⟨t312, A220, H⟩ := H
   replace H : (some (x0_6, t312)) = some (r1, r2) := H
   have A22 := Aside0.mk A220
   clear A220
   simp only [Option.some.injEq, Prod.mk.injEq] at H
   obtain ⟨rfl, rfl⟩ := H
   go_wp2_with (first | ((with_reducible refine gate_callee (f := 37) rfl ?_); refine goesL_ (some 39) rfl rfl Tryd.func37 (by kernel_rfl) rfl #[.string (⟨#[101, 120, 112, 101, 99, 116, 105, 110, 103, 32, 48, 46, 46, 57, 32, 100, 105, 103, 105, 116, 44, 32, 103, 111, 116]⟩ : ByteArray)] rfl (by (try simp only [List.map_toArray, List.map_cons, List.map_nil]); first | done | rfl | (simp only [List.length_drop, List.length_take]; rfl)) ?_; (with_reducible refine (errors_New.calls (⟨#[101, 120, 112, 101, 99, 116, 105, 110, 103, 32, 48, 46, 46, 57, 32, 100, 105, 103, 105, 116, 44, 32, 103, 111, 116]⟩ : ByteArray) t312 _ A22.out).mono ?_); rintro e w23 ⟨evt312, rfl, hb⟩; refine ⟨_, rfl, ?_⟩; have n0_ := Aside0.mk (below_step (by repeat (first | (with_reducible first | exact HB.out | apply below_alloc | apply pw_below_drewN | apply below_drew1) | exact HB.out)) hb); clear HB; have HB := n0_; clear n0_; (try clear hb); (try clear hb2); (try clear hk); (try clear hi); (try simp only [errX_none, errX_some])))
   go_ret2
   first | exact ⟨evt312, by first | rfl | (simp [errX_none, errX_some] <;> rfl) | (simp [*, errX_none, errX_some] <;> rfl), by repeat (first | (with_reducible first | exact HB.out | apply below_alloc | apply pw_below_drewN | apply below_drew1) | exact HB.out)⟩ | exact ⟨⟨(evt312).1, (evt312).2, by first | rfl | (simp [errX_none, errX_some] <;> rfl) | (simp [*, errX_none, errX_some] <;> rfl)⟩, by repeat (first | (with_reducible first | exact HB.out | apply below_alloc | apply pw_below_drewN | apply below_drew1) | exact HB.out)⟩
  rw [if_neg c21] at H
  have c21b0 : decide (x4_13 ≤ 0) = false := decide_eq_false c21
  clear c21
  have HC24 := Aside0.mk H
  clear H
  go_upto_region 13 with (fail)
  go_cut [46] (fun v46 wc => ∃ (kq : Nat) (x46_23 : Bool), v46 = .bool x46_23 ∧ Aside0 (fastjson_validateNumber.j3 kq x0_6 x4_13 x46_23 = some (r1, r2)) ∧ Aside0 (kq ≤ kj13) ∧ Aside0 (Below w.heap.size w wc))
  case first =>
   have H := HC24.out
   clear HC24
   by_cases c25 : 0 < (x0_6.size : Int)
   ·
    rw [if_pos c25] at H
    have c25b0 : decide (0 < (x0_6.size : Int)) = true := decide_eq_true c25
    have c25b1 : decide (0 < x0_6.size) = true := decide_eq_true (by omega)
    clear c25
    (first | rw [c25b0] | (simp only [i64_w, i32_w]; rw [c25b0]) | rw [c25b1] | skip)
    by_cases c27 : (bt x0_6 0) = 48
    ·
     rw [if_pos c27] at H
     have c27b0 : ((bt x0_6 0) == 48) = true := beq_iff_eq.mpr c27
     have c27b1 : ((bt x0_6 0) != 48) = false := bne_eq_false_iff_eq.mpr c27
     clear c27
     have H' := Aside0.mk H
     clear H
     have p26 : 0 ≤ (0 : Int) := (by omega)
     have q26 : 0 < x0_6.size := (by have : (0 : Int) < (x0_6.size : Int) := of_decide_eq_true (by first | (with_reducible assumption) | assumption); omega)
     have hx26 := bt_lit x0_6 0 0 rfl
     clear p26
     have qi26 : (0 < (x0_6.size : Int)) = True := eq_true (of_decide_eq_true (by first | (with_reducible assumption) | assumption))
     replace q26 := eq_true q26
     go_wp2
     go_meet
     case rel => exact ⟨_, ((x4_13 != 1)), (by first | rfl | (simp; done) | (simp [nil_ne_, nil_eq_]; done) | (simp [*]; done)), H', ⟨by have := HJ6.out; have := HJ13.out; first | omega | exact Nat.le_refl _⟩, ⟨by repeat (first | (with_reducible first | exact HB.out | apply below_alloc | apply pw_below_drewN | apply below_drew1) | exact HB.out)⟩⟩
    rw [if_neg c27] at H
    have c27b0 : ((bt x0_6 0) == 48) = false := beq_eq_false_iff_ne.mpr c27
    have c27b1 : ((bt x0_6 0) != 48) = true := bne_iff_ne.mpr c27
    have H' := Aside0.mk H
    clear H
    have p26 : 0 ≤ (0 : Int) := (by omega)
    have q26 : 0 < x0_6.size := (by have : (0 : Int) < (x0_6.size : Int) := of_decide_eq_true (by first | (with_reducible assumption) | assumption); omega)
    have hx26 := bt_lit x0_6 0 0 rfl
    clear p26
    have qi26 : (0 < (x0_6.size : Int)) = True := eq_true (of_decide_eq_true (by first | (with_reducible assumption) | assumption))
    replace q26 := eq_true q26
    go_wp2
    go_meet
    case rel => exact ⟨_, (false), (by first | rfl | (simp; done) | (simp [nil_ne_, nil_eq_]; done) | (simp [*]; done)), H', ⟨by have := HJ6.out; have := HJ13.out; first | omega | exact Nat.le_refl _⟩, ⟨by repeat (first | (with_reducible first | exact HB.out | apply below_alloc | apply pw_below_drewN | apply below_drew1) | exact HB.out)⟩⟩
   rw [if_neg c25] at H
   exact absurd H (by simp)
  clear HC24
  try clear c1
  try clear p1
  try clear q1
  try clear hx1
  try clear c2
  try clear c2b0
  try clear c2b1
  try clear p2
  try clear q2
  try clear hx2
  try clear qi2
  try clear c3
  try clear c5
  try clear c5b0
  try clear c5b1
  try clear p6
  try clear q6
  try clear hx6
  try clear qi6
  try clear c8
  try clear c8b0
  try clear c8b1
  try clear c9
  try clear c9b0
  try clear c9b1
  try clear c11
  try clear c11b0
  try clear c11b1
  try clear c15
  try clear c15b0
  try clear c15b1
  try clear c16
  try clear c16b0
  try clear p17
  try clear q17
  try clear hx17
  try clear c18
  try clear c18b0
  try clear p19
  try clear q19
  try clear hx19
  try clear c20
  try clear c20b0
  try clear c21
  try clear c21b0
  try clear c25
  try clear c25b0
  try clear c25b1
  try clear p26
  try clear q26
  try clear hx26
  try clear qi26
  try clear c27
  try clear c27b0
  try clear c27b1
  try clear p1
  try clear p17
  try clear p19
  try clear p2
  try clear p26
  try clear p6
  try clear q1
  try clear q17
  try clear q19
  try clear q26
  try clear q6
  obtain ⟨kq, x46_23, rfl, HA, HJ23, HB⟩ := hcut
  rcases kq with _ | kj23
  · exact absurd HA.out (by simp [fastjson_validateNumber.j3])
  have H := HA.out
  clear HA
  simp only [fastjson_validateNumber.j3] at H
  by_cases c28 : x46_23 = true
  ·
   subst c28
   have H1 : ((errors_New.f (⟨#[117, 110, 101, 120, 112, 101, 99, 116, 101, 100, 32, 110, 117, 109, 98, 101, 114, 32, 115, 116, 97, 114, 116, 105, 110, 103, 32, 102, 114, 111, 109, 32, 48]⟩ : ByteArray)).bind fun t313 => (some (x0_6, t313))) = some (r1, r2) := by rw [if_pos rfl] at H; exact H
   clear H
   have H := H1
   clear H1
   replace H := Option.bind_eq_some_iff.mp H
   obtain ⟨t313, A290, H⟩ := H
   replace H : (some (x0_6, t313)) = some (r1, r2) := H
   have A29 := Aside0.mk A290
   clear A290
   simp only [Option.some.injEq, Prod.mk.injEq] at H
   obtain ⟨rfl, rfl⟩ := H
   go_wp2_with (first | ((with_reducible refine gate_callee (f := 37) rfl ?_); refine goesL_ (some 48) rfl rfl Tryd.func37 (by kernel_rfl) rfl #[.string (⟨#[117, 110, 101, 120, 112, 101, 99, 116, 101, 100, 32, 110, 117, 109, 98, 101, 114, 32, 115, 116, 97, 114, 116, 105, 110, 103, 32, 102, 114, 111, 109, 32, 48]⟩ : ByteArray)] rfl (by (try simp only [List.map_toArray, List.map_cons, List.map_nil]); first | done | rfl | (simp only [List.length_drop, List.length_take]; rfl)) ?_; (with_reducible refine (errors_New.calls (⟨#[117, 110, 101, 120, 112, 101, 99, 116, 101, 100, 32, 110, 117, 109, 98, 101, 114, 32, 115, 116, 97, 114, 116, 105, 110, 103, 32, 102, 114, 111, 109, 32, 48]⟩ : ByteArray) t313 _ A29.out).mono ?_); rintro e w30 ⟨evt313, rfl, hb⟩; refine ⟨_, rfl, ?_⟩; have n0_ := Aside0.mk (below_step (by repeat (first | (with_reducible first | exact HB.out | apply below_alloc | apply pw_below_drewN | apply below_drew1) | exact HB.out)) hb); clear HB; have HB := n0_; clear n0_; (try clear hb); (try clear hb2); (try clear hk); (try clear hi); (try simp only [errX_none, errX_some])))
   go_ret2
   first | exact ⟨evt313, by first | rfl | (simp [errX_none, errX_some] <;> rfl) | (simp [*, errX_none, errX_some] <;> rfl), by repeat (first | (with_reducible first | exact HB.out | apply below_alloc | apply pw_below_drewN | apply below_drew1) | exact HB.out)⟩ | exact ⟨⟨(evt313).1, (evt313).2, by first | rfl | (simp [errX_none, errX_some] <;> rfl) | (simp [*, errX_none, errX_some] <;> rfl)⟩, by repeat (first | (with_reducible first | exact HB.out | apply below_alloc | apply pw_below_drewN | apply below_drew1) | exact HB.out)⟩
  replace c28 := Bool.eq_false_iff.mpr c28
  subst c28
  have H1 : (if x4_13 ≥ (x0_6.size : Int) then (some ((⟨#[]⟩ : ByteArray), none)) else (if 0 ≤ x4_13 then (if x4_13 < (x0_6.size : Int) then (if (bt x0_6 x4_13) = 46 then (if 0 ≤ (wrap64 (x4_13 + 1)) then (if (wrap64 (x4_13 + 1)) ≤ (x0_6.size : Int) then (if ((x0_6.extract ((wrap64 (x4_13 + 1)) : Int).toNat x0_6.size).size : Int) = 0 then ((errors_New.f (⟨#[109, 105, 115, 115, 105, 110, 103, 32, 102, 114, 97, 99, 116, 105, 111, 110, 97, 108, 32, 112, 97, 114, 116]⟩ : ByteArray)).bind fun t314 => (some (x0_6.extract ((wrap64 (x4_13 + 1)) : Int).toNat x0_6.size, t314))) else (fastjson_validateNumber.l1 kj23 (x0_6.extract ((wrap64 (x4_13 + 1)) : Int).toNat x0_6.size) 0)) else (none)) else (none)) else (fastjson_validateNumber.j6 kj23 x0_6 x4_13)) else (none)) else (none))) = some (r1, r2) := by rw [if_neg (show ¬ (false = true) by decide)] at H; exact H
  clear H
  have H := H1
  clear H1
  by_cases c31 : x4_13 ≥ (x0_6.size : Int)
  ·
   rw [if_pos c31] at H
   have c31b0 : decide ((x0_6.size : Int) ≤ x4_13) = true := decide_eq_true c31
   clear c31
   simp only [Option.some.injEq, Prod.mk.injEq] at H
   obtain ⟨rfl, rfl⟩ := H
   go_wp2
   go_ret2
   first | exact ⟨(0, Value.nilIface), by first | rfl | (simp [errX_none, errX_some] <;> rfl) | (simp [*, errX_none, errX_some] <;> rfl), by repeat (first | (with_reducible first | exact HB.out | apply below_alloc | apply pw_below_drewN | apply below_drew1) | exact HB.out)⟩ | exact ⟨⟨((0, Value.nilIface)).1, ((0, Value.nilIface)).2, by first | rfl | (simp [errX_none, errX_some] <;> rfl) | (simp [*, errX_none, errX_some] <;> rfl)⟩, by repeat (first | (with_reducible first | exact HB.out | apply below_alloc | apply pw_below_drewN | apply below_drew1) | exact HB.out)⟩
  rw [if_neg c31] at H
  have c31b0 : decide ((x0_6.size : Int) ≤ x4_13) = false := decide_eq_false c31
  clear c31
  by_cases c32 : 0 ≤ x4_13
  ·
   rw [if_pos c32] at H
   have c32b0 : decide (0 ≤ x4_13) = true := decide_eq_true c32
   clear c32
   by_cases c33 : x4_13 < (x0_6.size : Int)
   ·
    rw [if_pos c33] at H
    have c33b0 : decide (x4_13 < (x0_6.size : Int)) = true := decide_eq_true c33
    clear c33
    have HC35 := Aside0.mk H
    clear H
    have p34 : 0 ≤ (x4_13 : Int) := of_decide_eq_true (by first | (with_reducible assumption) | assumption)
    have q34 : x4_13 < (x0_6.size : Int) := of_decide_eq_true (by first | (with_reducible assumption) | assumption)
    have hx34 := bt_at x0_6 x4_13
    replace p34 := eq_true p34
    replace q34 := eq_true q34
    go_upto_if 56 with (fail)
    go_cut [0, 4] (fun v0 v4 wc => ∃ (kq : Nat) (x0_34 : ByteArray) (x4_34 : Int), v0 = .string x0_34 ∧ v4 = .int .i64 x4_34 ∧ Aside0 (fastjson_validateNumber.j6 kq x0_34 x4_34 = some (r1, r2)) ∧ Aside0 (kq ≤ kj23) ∧ Aside0 (Below w.heap.size w wc))
    case first =>
     have H := HC35.out
     clear HC35
     by_cases c36 : (bt x0_6 x4_13) = 46
     ·
      rw [if_pos c36] at H
      have c36b0 : ((bt x0_6 x4_13) == 46) = true := beq_iff_eq.mpr c36
      have c36b1 : ((bt x0_6 x4_13) != 46) = false := bne_eq_false_iff_eq.mpr c36
      clear c36
      (first | rw [c36b0] | (simp only [i64_w, i32_w]; rw [c36b0]) | rw [c36b1] | skip)
      obtain ⟨ji37, hji37⟩ : ∃ j_ : Int, (wrap64 (x4_13 + 1)) = j_ := ⟨_, rfl⟩
      replace H : (if 0 ≤ (ji37) then (if (ji37) ≤ (x0_6.size : Int) then (if ((x0_6.extract ((ji37) : Int).toNat x0_6.size).size : Int) = 0 then ((errors_New.f (⟨#[109, 105, 115, 115, 105, 110, 103, 32, 102, 114, 97, 99, 116, 105, 111, 110, 97, 108, 32, 112, 97, 114, 116]⟩ : ByteArray)).bind fun t314 => (some (x0_6.extract ((ji37) : Int).toNat x0_6.size, t314))) else (fastjson_validateNumber.l1 kj23 (x0_6.extract ((ji37) : Int).toNat x0_6.size) 0)) else (none)) else (none)) = some (r1, r2) := by first | (rw [hji37] at H; exact H) | (simp only [hji37] at H ⊢; exact H)
      have hji37w : (IntKind.i64.wrap (x4_13 + 1)) = ji37 := (i64_w _).trans hji37
      by_cases c38 : 0 ≤ (ji37)
      ·
       rw [if_pos c38] at H
       have c38b0 := eq_true c38
       have c38b1 : decide (0 ≤ (ji37)) = true := decide_eq_true c38
       clear c38
       by_cases c39 : (ji37) ≤ (x0_6.size : Int)
       ·
        rw [if_pos c39] at H
        have c39b0 := eq_true c39
        have c39b1 : decide ((ji37) ≤ (x0_6.size : Int)) = true := decide_eq_true c39
        clear c39
        obtain ⟨js40, hjs40⟩ : ∃ j_ : ByteArray, (x0_6.extract ((ji37) : Int).toNat x0_6.size) = j_ := ⟨_, rfl⟩
        skip
        replace H : (if (js40.size : Int) = 0 then ((errors_New.f (⟨#[109, 105, 115, 115, 105, 110, 103, 32, 102, 114, 97, 99, 116, 105, 111, 110, 97, 108, 32, 112, 97, 114, 116]⟩ : ByteArray)).bind fun t314 => (some (js40, t314))) else (fastjson_validateNumber.l1 kj23 js40 0)) = some (r1, r2) := by first | (rw [hjs40] at H; exact H) | (simp only [hjs40] at H ⊢; exact H)
        by_cases c41 : (js40.size : Int) = 0
        ·
         rw [if_pos c41] at H
         have c41b0 : ((js40.size : Int) == 0) = true := beq_iff_eq.mpr c41
         have c41b1 : ((js40.size : Int) != 0) = false := bne_eq_false_iff_eq.mpr c41
         clear c41
         replace H := Option.bind_eq_some_iff.mp H
         obtain ⟨t314, A420, H⟩ := H
         replace H : (some (js40, t314)) = some (r1, r2) := H
         have A42 := Aside0.mk A420
         clear A420
         simp only [Option.some.injEq, Prod.mk.injEq] at H
         obtain ⟨rfl, rfl⟩ := H
         go_wp2_with (first | ((with_reducible refine gate_callee (f := 37) rfl ?_); refine goesL_ (some 65) rfl rfl Tryd.func37 (by kernel_rfl) rfl #[.string (⟨#[109, 105, 115, 115, 105, 110, 103, 32, 102, 114, 97, 99, 116, 105, 111, 110, 97, 108, 32, 112, 97, 114, 116]⟩ : ByteArray)] rfl (by (try simp only [List.map_toArray, List.map_cons, List.map_nil]); first | done | rfl | (simp only [List.length_drop, List.length_take]; rfl)) ?_; (with_reducible refine (errors_New.calls (⟨#[109, 105, 115, 115, 105, 110, 103, 32, 102, 114, 97, 99, 116, 105, 111, 110, 97, 108, 32, 112, 97, 114, 116]⟩ : ByteArray) t314 _ A42.out).mono ?_); rintro e w43 ⟨evt314, rfl, hb⟩; refine ⟨_, rfl, ?_⟩; have n0_ := Aside0.mk (below_step (by repeat (first | (with_reducible first | exact HB.out | apply below_alloc | apply pw_below_drewN | apply below_drew1) | exact HB.out)) hb); clear HB; have HB := n0_; clear n0_; (try clear hb); (try clear hb2); (try clear hk); (try clear hi); (try simp only [errX_none, errX_some])))
         go_ret2
         first | exact ⟨evt314, by first | rfl | (simp [errX_none, errX_some] <;> rfl) | (simp only [← hji37, ← hjs40]; first | rfl | (simp [errX_none, errX_some] <;> rfl)) | (simp [*, errX_none, errX_some] <;> rfl), by repeat (first | (with_reducible first | exact HB.out | apply below_alloc | apply pw_below_drewN | apply below_drew1) | exact HB.out)⟩ | exact ⟨⟨(evt314).1, (evt314).2, by first | rfl | (simp [errX_none, errX_some] <;> rfl) | (simp only [← hji37, ← hjs40]; first | rfl | (simp [errX_none, errX_some] <;> rfl)) | (simp [*, errX_none, errX_some] <;> rfl)⟩, by repeat (first | (with_reducible first | exact HB.out | apply below_alloc | apply pw_below_drewN | apply below_drew1) | exact HB.out)⟩
        rw [if_neg c41] at H
        have c41b0 : ((js40.size : Int) == 0) = false := beq_eq_false_iff_ne.mpr c41
        have c41b1 : ((js40.size : Int) != 0) = true := bne_iff_ne.mpr c41
        have HC44 := Aside0.mk H
        clear H
        go_upto_block 2 with (fail)
        go_cut [4] (fun v4 wc => ∃ (kq : Nat) (x4_43 : Int), v4 = .int .i64 x4_43 ∧ Aside0 (fastjson_validateNumber.j5 kq js40 x4_43 = some (r1, r2)) ∧ Aside0 (kq ≤ kj23) ∧ Aside0 (Below w.heap.size w wc))
        case first =>
         have H := HC44.out
         clear HC44
         have H' := Aside0.mk H
         clear H
         go_wp2
         try simp only [Act.put, List.setIfInBounds_toArray, List.set_cons_succ, List.set_cons_zero]
         go_loopg [4] kj23 (fun kq v4 w' => ∃ (x4_4 : Int), v4 = .int .i64 x4_4 ∧ Aside0 (fastjson_validateNumber.l1 kq js40 x4_4 = some (r1, r2)) ∧ Aside0 (kq ≤ kj23) ∧ Aside0 (Below w.heap.size w w'))
         case atStart => exact ⟨(0), (by first | rfl | (simp; done) | (simp [nil_ne_, nil_eq_]; done) | (simp [*]; done)), H', ⟨Nat.le_refl _⟩, ⟨by repeat (first | (with_reducible first | exact HB.out | apply below_alloc | apply pw_below_drewN | apply below_drew1) | exact HB.out)⟩⟩
         case round =>
          clear H'
          try clear c1
          try clear p1
          try clear q1
          try clear hx1
          try clear c2
          try clear c2b0
          try clear c2b1
          try clear p2
          try clear q2
          try clear hx2
          try clear qi2
          try clear c3
          try clear p3
          try clear q3
          try clear hx3
          try clear c4
          try clear c5
          try clear c5b0
          try clear c5b1
          try clear p6
          try clear q6
          try clear hx6
          try clear qi6
          try clear c8
          try clear c8b0
          try clear c8b1
          try clear c9
          try clear c9b0
          try clear c9b1
          try clear c11
          try clear c11b0
          try clear c11b1
          try clear c15
          try clear c15b0
          try clear c15b1
          try clear c16
          try clear c16b0
          try clear p17
          try clear q17
          try clear hx17
          try clear c18
          try clear c18b0
          try clear p19
          try clear q19
          try clear hx19
          try clear c20
          try clear c20b0
          try clear c21
          try clear c21b0
          try clear c25
          try clear c25b0
          try clear c25b1
          try clear p26
          try clear q26
          try clear hx26
          try clear qi26
          try clear c27
          try clear c27b0
          try clear c27b1
          try clear c28
          try clear c31
          try clear c31b0
          try clear c32
          try clear c32b0
          try clear c33
          try clear c33b0
          try clear p34
          try clear q34
          try clear hx34
          try clear c36
          try clear c36b0
          try clear c36b1
          try clear c37
          try clear c38
          try clear c38b0
          try clear c38b1
          try clear c39
          try clear c39b0
          try clear c39b1
          try clear c41
          try clear c41b0
          try clear c41b1
          try clear p1
          try clear p17
          try clear p19
          try clear p2
          try clear p26
          try clear p34
          try clear p6
          try clear q1
          try clear q17
          try clear q19
          try clear q2
          try clear q26
          try clear q34
          try clear q6
          obtain ⟨x4_4, rfl, HA, HK4, HB⟩ := hrel
          rcases gk with _ | k4
          · exact absurd HA.out (by simp [fastjson_validateNumber.l1])
          have H := HA.out
          clear HA
          simp only [fastjson_validateNumber.l1] at H
          by_cases c45 : x4_4 < (js40.size : Int)
          ·
           rw [if_pos c45] at H
           have c45b0 : decide (x4_4 < (js40.size : Int)) = true := decide_eq_true c45
           clear c45
           (first | rw [c45b0] | (simp only [i64_w, i32_w]; rw [c45b0]) | rw [c45b1] | skip)
           by_cases c46 : 0 ≤ x4_4
           ·
            rw [if_pos c46] at H
            have c46b0 : decide (0 ≤ x4_4) = true := decide_eq_true c46
            clear c46
            by_cases c48 : (bt js40 x4_4) < 48
            ·
             rw [if_pos c48] at H
             have c48b0 : decide ((bt js40 x4_4) < 48) = true := decide_eq_true c48
             clear c48
             have H' := Aside0.mk H
             clear H
             have p47 : 0 ≤ (x4_4 : Int) := of_decide_eq_true (by first | (with_reducible assumption) | assumption)
             have q47 : x4_4 < (js40.size : Int) := of_decide_eq_true (by first | (with_reducible assumption) | assumption)
             have hx47 := bt_at js40 x4_4
             replace p47 := eq_true p47
             replace q47 := eq_true q47
             go_wp2
             go_meet
             case rel => exact ⟨_, (x4_4), (by first | rfl | (simp; done) | (simp [nil_ne_, nil_eq_]; done) | (simp [*]; done)), (by first | exact H' | (rw [hjs40]; exact H') | (simp only [hji37, hjs40]; exact H') | (simp only [hji37, hjs40] at H' ⊢; exact H')), ⟨by have := HJ6.out; have := HJ13.out; have := HJ23.out; have := HK4.out; first | omega | exact Nat.le_refl _⟩, ⟨by repeat (first | (with_reducible first | exact HB.out | apply below_alloc | apply pw_below_drewN | apply below_drew1) | exact HB.out)⟩⟩
            rw [if_neg c48] at H
            have c48b0 : decide ((bt js40 x4_4) < 48) = false := decide_eq_false c48
            clear c48
            by_cases c50 : (bt js40 x4_4) > 57
            ·
             rw [if_pos c50] at H
             have c50b0 : decide (57 < (bt js40 x4_4)) = true := decide_eq_true c50
             clear c50
             have H' := Aside0.mk H
             clear H
             have p47 : 0 ≤ (x4_4 : Int) := of_decide_eq_true (by first | (with_reducible assumption) | assumption)
             have q47 : x4_4 < (js40.size : Int) := of_decide_eq_true (by first | (with_reducible assumption) | assumption)
             have hx47 := bt_at js40 x4_4
             replace p47 := eq_true p47
             replace q47 := eq_true q47
             have p49 : 0 ≤ (x4_4 : Int) := of_decide_eq_true (by first | (with_reducible assumption) | assumption)
             have q49 : x4_4 < (js40.size : Int) := of_decide_eq_true (by first | (with_reducible assumption) | assumption)
             have hx49 := bt_at js40 x4_4
             replace p49 := eq_true p49
             replace q49 := eq_true q49
             go_wp2
             go_meet
             case rel => exact ⟨_, (x4_4), (by first | rfl | (simp; done) | (simp [nil_ne_, nil_eq_]; done) | (simp [*]; done)), (by first | exact H' | (rw [hjs40]; exact H') | (simp only [hji37, hjs40]; exact H') | (simp only [hji37, hjs40] at H' ⊢; exact H')), ⟨by have := HJ6.out; have := HJ13.out; have := HJ23.out; have := HK4.out; first | omega | exact Nat.le_refl _⟩, ⟨by repeat (first | (with_reducible first | exact HB.out | apply below_alloc | apply pw_below_drewN | apply below_drew1) | exact HB.out)⟩⟩
            rw [if_neg c50] at H
            have c50b0 : decide (57 < (bt js40 x4_4)) = false := decide_eq_false c50
            clear c50
            have H' := Aside0.mk H
            clear H
            have p47 : 0 ≤ (x4_4 : Int) := of_decide_eq_true (by first | (with_reducible assumption) | assumption)
            have q47 : x4_4 < (js40.size : Int) := of_decide_eq_true (by first | (with_reducible assumption) | assumption)
            have hx47 := bt_at js40 x4_4
            replace p47 := eq_true p47
            replace q47 := eq_true q47
            have p49 : 0 ≤ (x4_4 : Int) := of_decide_eq_true (by first | (with_reducible assumption) | assumption)
            have q49 : x4_4 < (js40.size : Int) := of_decide_eq_true (by first | (with_reducible assumption) | assumption)
            have hx49 := bt_at js40 x4_4
            replace p49 := eq_true p49
            replace q49 := eq_true q49
            go_wp2
            go_roundg k4
            case measure => have := HJ6.out; have := HJ13.out; have := HJ23.out; have := HK4.out; omega
            case rel => exact ⟨(wrap64 (x4_4 + 1)), (by first | rfl | (simp; done) | (simp [nil_ne_, nil_eq_]; done) | (simp [*]; done)), (by first | exact H' | (rw [hjs40]; exact H') | (simp only [hji37, hjs40]; exact H') | (simp only [hji37, hjs40] at H' ⊢; exact H')), ⟨by have := HJ6.out; have := HJ13.out; have := HJ23.out; have := HK4.out; omega⟩, ⟨by repeat (first | (with_reducible first | exact HB.out | apply below_alloc | apply pw_below_drewN | apply below_drew1) | exact HB.out)⟩⟩
           rw [if_neg c46] at H
           exact absurd H (by simp)
          rw [if_neg c45] at H
          have c45b0 : decide (x4_4 < (js40.size : Int)) = false := decide_eq_false c45
          clear c45
          (first | rw [c45b0] | (simp only [i64_w, i32_w]; rw [c45b0]) | rw [c45b1] | skip)
          have H' := Aside0.mk H
          clear H
          go_wp2
          go_meet
          case rel => exact ⟨_, (x4_4), (by first | rfl | (simp; done) | (simp [nil_ne_, nil_eq_]; done) | (simp [*]; done)), (by first | exact H' | (rw [hjs40]; exact H') | (simp only [hji37, hjs40]; exact H') | (simp only [hji37, hjs40] at H' ⊢; exact H')), ⟨by have := HJ6.out; have := HJ13.out; have := HJ23.out; have := HK4.out; first | omega | exact Nat.le_refl _⟩, ⟨by repeat (first | (with_reducible first | exact HB.out | apply below_alloc | apply pw_below_drewN | apply below_drew1) | exact HB.out)⟩⟩
        clear HC44
        try clear c1
        try clear p1
        try clear q1
        try clear hx1
        try clear c2
        try clear c2b0
        try clear c2b1
        try clear p2
        try clear q2
        try clear hx2
        try clear qi2
        try clear c3
        try clear p3
        try clear q3
        try clear hx3
        try clear c4
        try clear p4
        try clear q4
        try clear hx4
        try clear c5
        try clear c5b0
        try clear c5b1
        try clear p6
        try clear q6
        try clear hx6
        try clear qi6
        try clear c8
        try clear c8b0
        try clear c8b1
        try clear c9
        try clear c9b0
        try clear c9b1
        try clear c11
        try clear c11b0
        try clear c11b1
        try clear c15
        try clear c15b0
        try clear c15b1
        try clear c16
        try clear c16b0
        try clear p17
        try clear q17
        try clear hx17
        try clear c18
        try clear c18b0
        try clear p19
        try clear q19
        try clear hx19
        try clear c20
        try clear c20b0
        try clear c21
        try clear c21b0
        try clear c25
        try clear c25b0
        try clear c25b1
        try clear p26
        try clear q26
        try clear hx26
        try clear qi26
        try clear c27
        try clear c27b0
        try clear c27b1
        try clear c28
        try clear c31
        try clear c31b0
        try clear c32
        try clear c32b0
        try clear c33
        try clear c33b0
        try clear p34
        try clear q34
        try clear hx34
        try clear c36
        try clear c36b0
        try clear c36b1
        try clear c37
        try clear c38
        try clear c38b0
        try clear c38b1
        try clear c39
        try clear c39b0
        try clear c39b1
        try clear c41
        try clear c41b0
        try clear c41b1
        try clear c45
        try clear c45b0
        try clear c45b1
        try clear c46
        try clear c46b0
        try clear p47
        try clear q47
        try clear hx47
        try clear c48
        try clear c48b0
        try clear p49
        try clear q49
        try clear hx49
        try clear c50
        try clear c50b0
        try clear p1
        try clear p17
        try clear p19
        try clear p2
        try clear p26
        try clear p3
        try clear p34
        try clear p47
        try clear p49
        try clear p6
        try clear q1
        try clear q17
        try clear q19
        try clear q2
        try clear q26
        try clear q3
        try clear q34
        try clear q47
        try clear q49
        try clear q6
        obtain ⟨kq, x4_43, rfl, HA, HJ43, HB⟩ := hcut
        rcases kq with _ | kj43
        · exact absurd HA.out (by simp [fastjson_validateNumber.j5])
        have H := HA.out
        clear HA
        simp only [fastjson_validateNumber.j5] at H
        by_cases c51 : x4_43 = 0
        ·
         rw [if_pos c51] at H
         have c51b0 : (x4_43 == 0) = true := beq_iff_eq.mpr c51
         have c51b1 : (x4_43 != 0) = false := bne_eq_false_iff_eq.mpr c51
         clear c51
         replace H := Option.bind_eq_some_iff.mp H
         obtain ⟨t315, A520, H⟩ := H
         replace H : (some (js40, t315)) = some (r1, r2) := H
         have A52 := Aside0.mk A520
         clear A520
         simp only [Option.some.injEq, Prod.mk.injEq] at H
         obtain ⟨rfl, rfl⟩ := H
         go_wp2_with (first | ((with_reducible refine gate_callee (f := 37) rfl ?_); refine goesL_ (some 85) rfl rfl Tryd.func37 (by kernel_rfl) rfl #[.string (⟨#[101, 120, 112, 101, 99, 116, 105, 110, 103, 32, 48, 46, 46, 57, 32, 100, 105, 103, 105, 116, 32, 105, 110, 32, 102, 114, 97, 99, 116, 105, 111, 110, 97, 108, 32, 112, 97, 114, 116, 44, 32, 103, 111, 116]⟩ : ByteArray)] rfl (by (try simp only [List.map_toArray, List.map_cons, List.map_nil]); first | done | rfl | (simp only [List.length_drop, List.length_take]; rfl)) ?_; (with_reducible refine (errors_New.calls (⟨#[101, 120, 112, 101, 99, 116, 105, 110, 103, 32, 48, 46, 46, 57, 32, 100, 105, 103, 105, 116, 32, 105, 110, 32, 102, 114, 97, 99, 116, 105, 111, 110, 97, 108, 32, 112, 97, 114, 116, 44, 32, 103, 111, 116]⟩ : ByteArray) t315 _ A52.out).mono ?_); rintro e w53 ⟨evt315, rfl, hb⟩; refine ⟨_, rfl, ?_⟩; have n0_ := Aside0.mk (below_step (by repeat (first | (with_reducible first | exact HB.out | apply below_alloc | apply pw_below_drewN | apply below_drew1) | exact HB.out)) hb); clear HB; have HB := n0_; clear n0_; (try clear hb); (try clear hb2); (try clear hk); (try clear hi); (try simp only [errX_none, errX_some])))
         go_ret2
         first | exact ⟨evt315, by first | rfl | (simp [errX_none, errX_some] <;> rfl) | (simp only [← hji37, ← hjs40]; first | rfl | (simp [errX_none, errX_some] <;> rfl)) | (simp [*, errX_none, errX_some] <;> rfl), by repeat (first | (with_reducible first | exact HB.out | apply below_alloc | apply pw_below_drewN | apply below_drew1) | exact HB.out)⟩ | exact ⟨⟨(evt315).1, (evt315).2, by first | rfl | (simp [errX_none, errX_some] <;> rfl) | (simp only [← hji37, ← hjs40]; first | rfl | (simp [errX_none, errX_some] <;> rfl)) | (simp [*, errX_none, errX_some] <;> rfl)⟩, by repeat (first | (with_reducible first | exact HB.out | apply below_alloc | apply pw_below_drewN | apply below_drew1) | exact HB.out)⟩
        rw [if_neg c51] at H
        have c51b0 : (x4_43 == 0) = false := beq_eq_false_iff_ne.mpr c51
        have c51b1 : (x4_43 != 0) = true := bne_iff_ne.mpr c51
        by_cases c54 : x4_43 ≥ (js40.size : Int)
        ·
         rw [if_pos c54] at H
         have c54b0 : decide ((js40.size : Int) ≤ x4_43) = true := decide_eq_true c54
         clear c54
         simp only [Option.some.injEq, Prod.mk.injEq] at H
         obtain ⟨rfl, rfl⟩ := H
         go_wp2
         go_ret2
         first | exact ⟨(0, Value.nilIface), by first | rfl | (simp [errX_none, errX_some] <;> rfl) | (simp only [← hji37, ← hjs40]; first | rfl | (simp [errX_none, errX_some] <;> rfl)) | (simp [*, errX_none, errX_some] <;> rfl), by repeat (first | (with_reducible first | exact HB.out | apply below_alloc | apply pw_below_drewN | apply below_drew1) | exact HB.out)⟩ | exact ⟨⟨((0, Value.nilIface)).1, ((0, Value.nilIface)).2, by first | rfl | (simp [errX_none, errX_some] <;> rfl) | (simp only [← hji37, ← hjs40]; first | rfl | (simp [errX_none, errX_some] <;> rfl)) | (simp [*, errX_none, errX_some] <;> rfl)⟩, by repeat (first | (with_reducible first | exact HB.out | apply below_alloc | apply pw_below_drewN | apply below_drew1) | exact HB.out)⟩
        rw [if_neg c54] at H
        have c54b0 : decide ((js40.size : Int) ≤ x4_43) = false := decide_eq_false c54
        clear c54
        have H' := Aside0.mk H
        clear H
        go_wp2
        go_meet
        case rel => exact ⟨_, (js40), (x4_43), (by first | rfl | (simp; done) | (simp only [← hjs40] <;> (first | rfl | simp); done) | (simp [nil_ne_, nil_eq_]; done) | (simp [*]; done)), (by first | rfl | (simp; done) | (simp [nil_ne_, nil_eq_]; done) | (simp [*]; done)), (by first | exact H' | (rw [hjs40]; exact H') | (simp only [hji37, hjs40]; exact H') | (simp only [hji37, hjs40] at H' ⊢; exact H')), ⟨by have := HJ6.out; have := HJ13.out; have := HJ23.out; have := HJ43.out; first | omega | exact Nat.le_refl _⟩, ⟨by repeat (first | (with_reducible first | exact HB.out | apply below_alloc | apply pw_below_drewN | apply below_drew1) | exact HB.out)⟩⟩
       rw [if_neg c39] at H
       exact absurd H (by simp)
      rw [if_neg c38] at H
      exact absurd H (by simp)
     rw [if_neg c36] at H
     have c36b0 : ((bt x0_6 x4_13) == 46) = false := beq_eq_false_iff_ne.mpr c36
     have c36b1 : ((bt x0_6 x4_13) != 46) = true := bne_iff_ne.mpr c36
     (first | rw [c36b0] | (simp only [i64_w, i32_w]; rw [c36b0]) | rw [c36b1] | skip)
     have H' := Aside0.mk H
     clear H
     go_wp2
     go_meet
     case rel => exact ⟨_, (x0_6), (x4_13), (by first | rfl | (simp; done) | (simp [nil_ne_, nil_eq_]; done) | (simp [*]; done)), (by first | rfl | (simp; done) | (simp [nil_ne_, nil_eq_]; done) | (simp [*]; done)), H', ⟨by have := HJ6.out; have := HJ13.out; have := HJ23.out; first | omega | exact Nat.le_refl _⟩, ⟨by repeat (first | (with_reducible first | exact HB.out | apply below_alloc | apply pw_below_drewN | apply below_drew1) | exact HB.out)⟩⟩
    clear HC35
    try clear c1
    try clear p1
    try clear q1
    try clear hx1
    try clear c2
    try clear c2b0
    try clear c2b1
    try clear p2
    try clear q2
    try clear hx2
    try clear qi2
    try clear c3
    try clear p3
    try clear q3
    try clear hx3
    try clear c4
    try clear p4
    try clear q4
    try clear hx4
    try clear c5
    try clear c5b0
    try clear c5b1
    try clear p6
    try clear q6
    try clear hx6
    try clear qi6
    try clear c8
    try clear c8b0
    try clear c8b1
    try clear c9
    try clear c9b0
    try clear c9b1
    try clear c11
    try clear c11b0
    try clear c11b1
    try clear c15
    try clear c15b0
    try clear c15b1
    try clear c16
    try clear c16b0
    try clear p17
    try clear q17
    try clear hx17
    try clear c18
    try clear c18b0
    try clear p19
    try clear q19
    try clear hx19
    try clear c20
    try clear c20b0
    try clear c21
    try clear c21b0
    try clear c25
    try clear c25b0
    try clear c25b1
    try clear p26
    try clear q26
    try clear hx26
    try clear qi26
    try clear c27
    try clear c27b0
    try clear c27b1
    try clear c28
    try clear c31
    try clear c31b0
    try clear c32
    try clear c32b0
    try clear c33
    try clear c33b0
    try clear p34
    try clear q34
    try clear hx34
    try clear c36
    try clear c36b0
    try clear c36b1
    try clear c37
    try clear c38
    try clear c38b0
    try clear c38b1
    try clear c39
    try clear c39b0
    try clear c39b1
    try clear c41
    try clear c41b0
    try clear c41b1
    try clear c45
    try clear c45b0
    try clear c45b1
    try clear c46
    try clear c46b0
    try clear p47
    try clear q47
    try clear hx47
    try clear c48
    try clear c48b0
    try clear p49
    try clear q49
    try clear hx49
    try clear c50
    try clear c50b0
    try clear c51
    try clear c51b0
    try clear c51b1
    try clear c54
    try clear c54b0
    try clear p1
    try clear p17
    try clear p19
    try clear p2
    try clear p26
    try clear p3
    try clear p34
    try clear p4
    try clear p47
    try clear p49
    try clear p6
    try clear q1
    try clear q17
    try clear q19
    try clear q2
    try clear q26
    try clear q3
    try clear q34
    try clear q4
    try clear q47
    try clear q49
    try clear q6
    obtain ⟨kq, x0_34, x4_34, rfl, rfl, HA, HJ34, HB⟩ := hcut
    rcases kq with _ | kj34
    · exact absurd HA.out (by simp [fastjson_validateNumber.j6])
    have H := HA.out
    clear HA
    simp only [fastjson_validateNumber.j6] at H
    have HC55 := Aside0.mk H
    clear H
    go_upto_region 29 with (fail)
    go_cut [99] (fun v99 wc => ∃ (kq : Nat) (x99_54 : Bool), v99 = .bool x99_54 ∧ Aside0 (fastjson_validateNumber.j7 kq x0_34 x4_34 x99_54 = some (r1, r2)) ∧ Aside0 (kq ≤ kj34) ∧ Aside0 (Below w.heap.size w wc))
    case first =>
     have H := HC55.out
     clear HC55
     by_cases c56 : 0 ≤ x4_34
     ·
      rw [if_pos c56] at H
      have c56b0 : decide (0 ≤ x4_34) = true := decide_eq_true c56
      clear c56
      (first | rw [c56b0] | (simp only [i64_w, i32_w]; rw [c56b0]) | rw [c56b1] | skip)
      by_cases c57 : x4_34 < (x0_34.size : Int)
      ·
       rw [if_pos c57] at H
       have c57b0 : decide (x4_34 < (x0_34.size : Int)) = true := decide_eq_true c57
       clear c57
       by_cases c59 : (bt x0_34 x4_34) = 101
       ·
        rw [if_pos c59] at H
        have c59b0 : ((bt x0_34 x4_34) == 101) = true := beq_iff_eq.mpr c59
        have c59b1 : ((bt x0_34 x4_34) != 101) = false := bne_eq_false_iff_eq.mpr c59
        clear c59
        have H' := Aside0.mk H
        clear H
        have p58 : 0 ≤ (x4_34 : Int) := of_decide_eq_true (by first | (with_reducible assumption) | assumption)
        have q58 : x4_34 < (x0_34.size : Int) := of_decide_eq_true (by first | (with_reducible assumption) | assumption)
        have hx58 := bt_at x0_34 x4_34
        replace p58 := eq_true p58
        replace q58 := eq_true q58
        go_wp2
        go_meet
        case rel => exact ⟨_, (true), (by first | rfl | (simp; done) | (simp [nil_ne_, nil_eq_]; done) | (simp [*]; done)), H', ⟨by have := HJ6.out; have := HJ13.out; have := HJ23.out; have := HJ34.out; first | omega | exact Nat.le_refl _⟩, ⟨by repeat (first | (with_reducible first | exact HB.out | apply below_alloc | apply pw_below_drewN | apply below_drew1) | exact HB.out)⟩⟩
       rw [if_neg c59] at H
       have c59b0 : ((bt x0_34 x4_34) == 101) = false := beq_eq_false_iff_ne.mpr c59
       have c59b1 : ((bt x0_34 x4_34) != 101) = true := bne_iff_ne.mpr c59
       have H' := Aside0.mk H
       clear H
       have p58 : 0 ≤ (x4_34 : Int) := of_decide_eq_true (by first | (with_reducible assumption) | assumption)
       have q58 : x4_34 < (x0_34.size : Int) := of_decide_eq_true (by first | (with_reducible assumption) | assumption)
       have hx58 := bt_at x0_34 x4_34
       replace p58 := eq_true p58
       replace q58 := eq_true q58
       have p60 : 0 ≤ (x4_34 : Int) := of_decide_eq_true (by first | (with_reducible assumption) | assumption)
       have q60 : x4_34 < (x0_34.size : Int) := of_decide_eq_true (by first | (with_reducible assumption) | assumption)
       have hx60 := bt_at x0_34 x4_34
       replace p60 := eq_true p60
       replace q60 := eq_true q60
       go_wp2
       go_meet
       case rel => exact ⟨_, (((bt x0_34 x4_34) == 69)), (by first | rfl | (simp; done) | (simp [nil_ne_, nil_eq_]; done) | (simp [*]; done)), H', ⟨by have := HJ6.out; have := HJ13.out; have := HJ23.out; have := HJ34.out; first | omega | exact Nat.le_refl _⟩, ⟨by repeat (first | (with_reducible first | exact HB.out | apply below_alloc | apply pw_below_drewN | apply below_drew1) | exact HB.out)⟩⟩
      rw [if_neg c57] at H
      exact absurd H (by simp)
     rw [if_neg c56] at H
     exact absurd H (by simp)
    clear HC55
    try clear c1
    try clear p1
    try clear q1
    try clear hx1
    try clear c2
    try clear c2b0
    try clear c2b1
    try clear p2
    try clear q2
    try clear hx2
    try clear qi2
    try clear c3
    try clear p3
    try clear q3
    try clear hx3
    try clear c4
    try clear p4
    try clear q4
    try clear hx4
    try clear c5
    try clear c5b0
    try clear c5b1
    try clear p5
    try clear q5
    try clear hx5
    try clear p6
    try clear q6
    try clear hx6
    try clear qi6
    try clear c8
    try clear c8b0
    try clear c8b1
    try clear c9
    try clear c9b0
    try clear c9b1
    try clear c11
    try clear c11b0
    try clear c11b1
    try clear c15
    try clear c15b0
    try clear c15b1
    try clear c16
    try clear c16b0
    try clear p17
    try clear q17
    try clear hx17
    try clear c18
    try clear c18b0
    try clear p19
    try clear q19
    try clear hx19
    try clear c20
    try clear c20b0
    try clear c21
    try clear c21b0
    try clear c25
    try clear c25b0
    try clear c25b1
    try clear p26
    try clear q26
    try clear hx26
    try clear qi26
    try clear c27
    try clear c27b0
    try clear c27b1
    try clear c28
    try clear c31
    try clear c31b0
    try clear c32
    try clear c32b0
    try clear c33
    try clear c33b0
    try clear p34
    try clear q34
    try clear hx34
    try clear c36
    try clear c36b0
    try clear c36b1
    try clear c37
    try clear c38
    try clear c38b0
    try clear c38b1
    try clear c39
    try clear c39b0
    try clear c39b1
    try clear c41
    try clear c41b0
    try clear c41b1
    try clear c45
    try clear c45b0
    try clear c45b1
    try clear c46
    try clear c46b0
    try clear p47
    try clear q47
    try clear hx47
    try clear c48
    try clear c48b0
    try clear p49
    try clear q49
    try clear hx49
    try clear c50
    try clear c50b0
    try clear c51
    try clear c51b0
    try clear c51b1
    try clear c54
    try clear c54b0
    try clear c56
    try clear c56b0
    try clear c56b1
    try clear c57
    try clear c57b0
    try clear p58
    try clear q58
    try clear hx58
    try clear c59
    try clear c59b0
    try clear c59b1
    try clear p60
    try clear q60
    try clear hx60
    try clear p1
    try clear p17
    try clear p19
    try clear p2
    try clear p26
    try clear p3
    try clear p34
    try clear p4
    try clear p47
    try clear p49
    try clear p58
    try clear p6
    try clear p60
    try clear q1
    try clear q17
    try clear q19
    try clear q2
    try clear q26
    try clear q3
    try clear q34
    try clear q4
    try clear q47
    try clear q49
    try clear q58
    try clear q6
    try clear q60
    obtain ⟨kq, x99_54, rfl, HA, HJ54, HB⟩ := hcut
    rcases kq with _ | kj54
    · exact absurd HA.out (by simp [fastjson_validateNumber.j7])
    have H := HA.out
    clear HA
    simp only [fastjson_validateNumber.j7] at H
    by_cases c61 : x99_54 = true
    ·
     subst c61
     have H1 : (if 0 ≤ (wrap64 (x4_34 + 1)) then (if (wrap64 (x4_34 + 1)) ≤ (x0_34.size : Int) then (if ((x0_34.extract ((wrap64 (x4_34 + 1)) : Int).toNat x0_34.size).size : Int) = 0 then ((errors_New.f (⟨#[109, 105, 115, 115, 105, 110, 103, 32, 101, 120, 112, 111, 110, 101, 110, 116, 32, 112, 97, 114, 116]⟩ : ByteArray)).bind fun t316 => (some (x0_34.extract ((wrap64 (x4_34 + 1)) : Int).toNat x0_34.size, t316))) else (if 0 < ((x0_34.extract ((wrap64 (x4_34 + 1)) : Int).toNat x0_34.size).size : Int) then (if (bt (x0_34.extract ((wrap64 (x4_34 + 1)) : Int).toNat x0_34.size) 0) = 45 then (fastjson_validateNumber.j8 kj54 (x0_34.extract ((wrap64 (x4_34 + 1)) : Int).toNat x0_34.size) true) else (fastjson_validateNumber.j8 kj54 (x0_34.extract ((wrap64 (x4_34 + 1)) : Int).toNat x0_34.size) ((bt (x0_34.extract ((wrap64 (x4_34 + 1)) : Int).toNat x0_34.size) 0) == 43))) else (none))) else (none)) else (none)) = some (r1, r2) := by rw [if_pos rfl] at H; exact H
     clear H
     have H := H1
     clear H1
     obtain ⟨ji62, hji62⟩ : ∃ j_ : Int, (wrap64 (x4_34 + 1)) = j_ := ⟨_, rfl⟩
     replace H : (if 0 ≤ (ji62) then (if (ji62) ≤ (x0_34.size : Int) then (if ((x0_34.extract ((ji62) : Int).toNat x0_34.size).size : Int) = 0 then ((errors_New.f (⟨#[109, 105, 115, 115, 105, 110, 103, 32, 101, 120, 112, 111, 110, 101, 110, 116, 32, 112, 97, 114, 116]⟩ : ByteArray)).bind fun t316 => (some (x0_34.extract ((ji62) : Int).toNat x0_34.size, t316))) else (if 0 < ((x0_34.extract ((ji62) : Int).toNat x0_34.size).size : Int) then (if (bt (x0_34.extract ((ji62) : Int).toNat x0_34.size) 0) = 45 then (fastjson_validateNumber.j8 kj54 (x0_34.extract ((ji62) : Int).toNat x0_34.size) true) else (fastjson_validateNumber.j8 kj54 (x0_34.extract ((ji62) : Int).toNat x0_34.size) ((bt (x0_34.extract ((ji62) : Int).toNat x0_34.size) 0) == 43))) else (none))) else (none)) else (none)) = some (r1, r2) := by first | (rw [hji62] at H; exact H) | (simp only [hji62] at H ⊢; exact H)
     have hji62w : (IntKind.i64.wrap (x4_34 + 1)) = ji62 := (i64_w _).trans hji62
     by_cases c63 : 0 ≤ (ji62)
     ·
      rw [if_pos c63] at H
      have c63b0 := eq_true c63
      have c63b1 : decide (0 ≤ (ji62)) = true := decide_eq_true c63
      clear c63
      by_cases c64 : (ji62) ≤ (x0_34.size : Int)
      ·
       rw [if_pos c64] at H
       have c64b0 := eq_true c64
       have c64b1 : decide ((ji62) ≤ (x0_34.size : Int)) = true := decide_eq_true c64
       clear c64
       obtain ⟨js65, hjs65⟩ : ∃ j_ : ByteArray, (x0_34.extract ((ji62) : Int).toNat x0_34.size) = j_ := ⟨_, rfl⟩
       skip
       replace H : (if (js65.size : Int) = 0 then ((errors_New.f (⟨#[109, 105, 115, 115, 105, 110, 103, 32, 101, 120, 112, 111, 110, 101, 110, 116, 32, 112, 97, 114, 116]⟩ : ByteArray)).bind fun t316 => (some (js65, t316))) else (if 0 < (js65.size : Int) then (if (bt js65 0) = 45 then (fastjson_validateNumber.j8 kj54 js65 true) else (fastjson_validateNumber.j8 kj54 js65 ((bt js65 0) == 43))) else (none))) = some (r1, r2) := by first | (rw [hjs65] at H; exact H) | (simp only [hjs65] at H ⊢; exact H)
       by_cases c66 : (js65.size : Int) = 0
       ·
        rw [if_pos c66] at H
        have c66b0 : ((js65.size : Int) == 0) = true := beq_iff_eq.mpr c66
        have c66b1 : ((js65.size : Int) != 0) = false := bne_eq_false_iff_eq.mpr c66
        clear c66
        replace H := Option.bind_eq_some_iff.mp H
        obtain ⟨t316, A670, H⟩ := H
        replace H : (some (js65, t316)) = some (r1, r2) := H
        have A67 := Aside0.mk A670
        clear A670
        simp only [Option.some.injEq, Prod.mk.injEq] at H
        obtain ⟨rfl, rfl⟩ := H
        go_wp2_with (first | ((with_reducible refine gate_callee (f := 37) rfl ?_); refine goesL_ (some 108) rfl rfl Tryd.func37 (by kernel_rfl) rfl #[.string (⟨#[109, 105, 115, 115, 105, 110, 103, 32, 101, 120, 112, 111, 110, 101, 110, 116, 32, 112, 97, 114, 116]⟩ : ByteArray)] rfl (by (try simp only [List.map_toArray, List.map_cons, List.map_nil]); first | done | rfl | (simp only [List.length_drop, List.length_take]; rfl)) ?_; (with_reducible refine (errors_New.calls (⟨#[109, 105, 115, 115, 105, 110, 103, 32, 101, 120, 112, 111, 110, 101, 110, 116, 32, 112, 97, 114, 116]⟩ : ByteArray) t316 _ A67.out).mono ?_); rintro e w68 ⟨evt316, rfl, hb⟩; refine ⟨_, rfl, ?_⟩; have n0_ := Aside0.mk (below_step (by repeat (first | (with_reducible first | exact HB.out | apply below_alloc | apply pw_below_drewN | apply below_drew1) | exact HB.out)) hb); clear HB; have HB := n0_; clear n0_; (try clear hb); (try clear hb2); (try clear hk); (try clear hi); (try simp only [errX_none, errX_some])))
        go_ret2
        first | exact ⟨evt316, by first | rfl | (simp [errX_none, errX_some] <;> rfl) | (simp only [← hji62, ← hjs65]; first | rfl | (simp [errX_none, errX_some] <;> rfl)) | (simp [*, errX_none, errX_some] <;> rfl), by repeat (first | (with_reducible first | exact HB.out | apply below_alloc | apply pw_below_drewN | apply below_drew1) | exact HB.out)⟩ | exact ⟨⟨(evt316).1, (evt316).2, by first | rfl | (simp [errX_none, errX_some] <;> rfl) | (simp only [← hji62, ← hjs65]; first | rfl | (simp [errX_none, errX_some] <;> rfl)) | (simp [*, errX_none, errX_some] <;> rfl)⟩, by repeat (first | (with_reducible first | exact HB.out | apply below_alloc | apply pw_below_drewN | apply below_drew1) | exact HB.out)⟩
       rw [if_neg c66] at H
       have c66b0 : ((js65.size : Int) == 0) = false := beq_eq_false_iff_ne.mpr c66
       have c66b1 : ((js65.size : Int) != 0) = true := bne_iff_ne.mpr c66
       have HC69 := Aside0.mk H
       clear H
       go_upto_region 33 with (fail)
       go_cut [116] (fun v116 wc => ∃ (kq : Nat) (x116_68 : Bool), v116 = .bool x116_68 ∧ Aside0 (fastjson_validateNumber.j8 kq js65 x116_68 = some (r1, r2)) ∧ Aside0 (kq ≤ kj54) ∧ Aside0 (Below w.heap.size w wc))
       case first =>
        have H := HC69.out
        clear HC69
        by_cases c70 : 0 < (js65.size : Int)
        ·
         rw [if_pos c70] at H
         have c70b0 : decide (0 < (js65.size : Int)) = true := decide_eq_true c70
         have c70b1 : decide (0 < js65.size) = true := decide_eq_true (by omega)
         clear c70
         (first | rw [c70b0] | (simp only [i64_w, i32_w]; rw [c70b0]) | rw [c70b1] | skip)
         by_cases c72 : (bt js65 0) = 45
         ·
          rw [if_pos c72] at H
          have c72b0 : ((bt js65 0) == 45) = true := beq_iff_eq.mpr c72
          have c72b1 : ((bt js65 0) != 45) = false := bne_eq_false_iff_eq.mpr c72
          clear c72
          have H' := Aside0.mk H
          clear H
          have p71 : 0 ≤ (0 : Int) := (by omega)
          have q71 : 0 < js65.size := (by have : (0 : Int) < (js65.size : Int) := of_decide_eq_true (by first | (with_reducible assumption) | assumption); omega)
          have hx71 := bt_lit js65 0 0 rfl
          clear p71
          have qi71 : (0 < (js65.size : Int)) = True := eq_true (of_decide_eq_true (by first | (with_reducible assumption) | assumption))
          replace q71 := eq_true q71
          go_wp2
          go_meet
          case rel => exact ⟨_, (true), (by first | rfl | (simp; done) | (simp [nil_ne_, nil_eq_]; done) | (simp [*]; done)), (by first | exact H' | (rw [hjs65]; exact H') | (simp only [hji62, hjs65]; exact H') | (simp only [hji62, hjs65] at H' ⊢; exact H')), ⟨by have := HJ6.out; have := HJ13.out; have := HJ23.out; have := HJ34.out; have := HJ54.out; first | omega | exact Nat.le_refl _⟩, ⟨by repeat (first | (with_reducible first | exact HB.out | apply below_alloc | apply pw_below_drewN | apply below_drew1) | exact HB.out)⟩⟩
         rw [if_neg c72] at H
         have c72b0 : ((bt js65 0) == 45) = false := beq_eq_false_iff_ne.mpr c72
         have c72b1 : ((bt js65 0) != 45) = true := bne_iff_ne.mpr c72
         have H' := Aside0.mk H
         clear H
         have p71 : 0 ≤ (0 : Int) := (by omega)
         have q71 : 0 < js65.size := (by have : (0 : Int) < (js65.size : Int) := of_decide_eq_true (by first | (with_reducible assumption) | assumption); omega)
         have hx71 := bt_lit js65 0 0 rfl
         clear p71
         have qi71 : (0 < (js65.size : Int)) = True := eq_true (of_decide_eq_true (by first | (with_reducible assumption) | assumption))
         replace q71 := eq_true q71
         have p73 : 0 ≤ (0 : Int) := (by omega)
         have q73 : 0 < js65.size := (by have : (0 : Int) < (js65.size : Int) := of_decide_eq_true (by first | (with_reducible assumption) | assumption); omega)
         have hx73 := bt_lit js65 0 0 rfl
         clear p73
         have qi73 : (0 < (js65.size : Int)) = True := eq_true (of_decide_eq_true (by first | (with_reducible assumption) | assumption))
         replace q73 := eq_true q73
         go_wp2
         go_meet
         case rel => exact ⟨_, (((bt js65 0) == 43)), (by first | rfl | (simp; done) | (simp only [← hjs65] <;> (first | rfl | simp); done) | (simp [nil_ne_, nil_eq_]; done) | (simp [*]; done)), (by first | exact H' | (rw [hjs65]; exact H') | (simp only [hji62, hjs65]; exact H') | (simp only [hji62, hjs65] at H' ⊢; exact H')), ⟨by have := HJ6.out; have := HJ13.out; have := HJ23.out; have := HJ34.out; have := HJ54.out; first | omega | exact Nat.le_refl _⟩, ⟨by repeat (first | (with_reducible first | exact HB.out | apply below_alloc | apply pw_below_drewN | apply below_drew1) | exact HB.out)⟩⟩
        rw [if_neg c70] at H
        exact absurd H (by simp)
       clear HC69
       try clear c1
       try clear p1
       try clear q1
       try clear hx1
       try clear c2
       try clear c2b0
       try clear c2b1
       try clear p2
       try clear q2
       try clear hx2
       try clear qi2
       try clear c3
       try clear p3
       try clear q3
       try clear hx3
       try clear c4
       try clear p4
       try clear q4
       try clear hx4
       try clear c5
       try clear c5b0
       try clear c5b1
       try clear p5
       try clear q5
       try clear hx5
       try clear c6
       try clear p6
       try clear q6
       try clear hx6
       try clear qi6
       try clear c7
       try clear p7
       try clear q7
       try clear hx7
       try clear qi7
       try clear c8
       try clear c8b0
       try clear c8b1
       try clear c9
       try clear c9b0
       try clear c9b1
       try clear c11
       try clear c11b0
       try clear c11b1
       try clear c15
       try clear c15b0
       try clear c15b1
       try clear c16
       try clear c16b0
       try clear p17
       try clear q17
       try clear hx17
       try clear c18
       try clear c18b0
       try clear p19
       try clear q19
       try clear hx19
       try clear c20
       try clear c20b0
       try clear c21
       try clear c21b0
       try clear c25
       try clear c25b0
       try clear c25b1
       try clear p26
       try clear q26
       try clear hx26
       try clear qi26
       try clear c27
       try clear c27b0
       try clear c27b1
       try clear c28
       try clear c31
       try clear c31b0
       try clear c32
       try clear c32b0
       try clear c33
       try clear c33b0
       try clear p34
       try clear q34
       try clear hx34
       try clear c36
       try clear c36b0
       try clear c36b1
       try clear c37
       try clear c38
       try clear c38b0
       try clear c38b1
       try clear c39
       try clear c39b0
       try clear c39b1
       try clear c41
       try clear c41b0
       try clear c41b1
       try clear c45
       try clear c45b0
       try clear c45b1
       try clear c46
       try clear c46b0
       try clear p47
       try clear q47
       try clear hx47
       try clear c48
       try clear c48b0
       try clear p49
       try clear q49
       try clear hx49
       try clear c50
       try clear c50b0
       try clear c51
       try clear c51b0
       try clear c51b1
       try clear c54
       try clear c54b0
       try clear c56
       try clear c56b0
       try clear c56b1
       try clear c57
       try clear c57b0
       try clear p58
       try clear q58
       try clear hx58
       try clear c59
       try clear c59b0
       try clear c59b1
       try clear p60
       try clear q60
       try clear hx60
       try clear c61
       try clear c63
       try clear c63b0
       try clear c63b1
       try clear c64
       try clear c64b0
       try clear c64b1
       try clear p64
       try clear c66
       try clear c66b0
       try clear c66b1
       try clear c70
       try clear c70b0
       try clear c70b1
       try clear p71
       try clear q71
       try clear hx71
       try clear qi71
       try clear c72
       try clear c72b0
       try clear c72b1
       try clear p73
       try clear q73
       try clear hx73
       try clear qi73
       try clear p1
       try clear p17
       try clear p19
       try clear p2
       try clear p26
       try clear p3
       try clear p34
       try clear p4
       try clear p47
       try clear p49
       try clear p5
       try clear p58
       try clear p6
       try clear p60
       try clear p71
       try clear p73
       try clear q1
       try clear q17
       try clear q19
       try clear q2
       try clear q26
       try clear q3
       try clear q34
       try clear q4
       try clear q47
       try clear q49
       try clear q5
       try clear q58
       try clear q6
       try clear q60
       try clear q71
       try clear q73
       obtain ⟨kq, x116_68, rfl, HA, HJ68, HB⟩ := hcut
       rcases kq with _ | kj68
       · exact absurd HA.out (by simp [fastjson_validateNumber.j8])
       have H := HA.out
       clear HA
       simp only [fastjson_validateNumber.j8] at H
       have HC74 := Aside0.mk H
       clear H
       go_upto_if 116 with (fail)
       go_cut [0] (fun v0 wc => ∃ (kq : Nat) (x0_73 : ByteArray), v0 = .string x0_73 ∧ Aside0 (fastjson_validateNumber.j9 kq x0_73 = some (r1, r2)) ∧ Aside0 (kq ≤ kj68) ∧ Aside0 (Below w.heap.size w wc))
       case first =>
        have H := HC74.out
        clear HC74
        by_cases c75 : x116_68 = true
        ·
         subst c75
         have H1 : (if 1 ≤ (js65.size : Int) then (if ((js65.extract 1 js65.size).size : Int) = 0 then ((errors_New.f (⟨#[109, 105, 115, 115, 105, 110, 103, 32, 101, 120, 112, 111, 110, 101, 110, 116, 32, 112, 97, 114, 116]⟩ : ByteArray)).bind fun t317 => (some (js65.extract 1 js65.size, t317))) else (fastjson_validateNumber.j9 kj68 (js65.extract 1 js65.size))) else (none)) = some (r1, r2) := by rw [if_pos rfl] at H; exact H
         clear H
         have H := H1
         clear H1
         by_cases c76 : 1 ≤ (js65.size : Int)
         ·
          rw [if_pos c76] at H
          have c76b0 := eq_true c76
          have c76b1 : decide (1 ≤ (js65.size : Int)) = true := decide_eq_true c76
          clear c76
          obtain ⟨js77, hjs77⟩ : ∃ j_ : ByteArray, (js65.extract 1 js65.size) = j_ := ⟨_, rfl⟩
          skip
          replace H : (if (js77.size : Int) = 0 then ((errors_New.f (⟨#[109, 105, 115, 115, 105, 110, 103, 32, 101, 120, 112, 111, 110, 101, 110, 116, 32, 112, 97, 114, 116]⟩ : ByteArray)).bind fun t317 => (some (js77, t317))) else (fastjson_validateNumber.j9 kj68 js77)) = some (r1, r2) := by first | (rw [hjs77] at H; exact H) | (simp only [hjs77] at H ⊢; exact H)
          by_cases c78 : (js77.size : Int) = 0
          ·
           rw [if_pos c78] at H
           have c78b0 : ((js77.size : Int) == 0) = true := beq_iff_eq.mpr c78
           have c78b1 : ((js77.size : Int) != 0) = false := bne_eq_false_iff_eq.mpr c78
           clear c78
           (first | rw [c78b0] | (simp only [i64_w, i32_w]; rw [c78b0]) | rw [c78b1] | skip)
           replace H := Option.bind_eq_some_iff.mp H
           obtain ⟨t317, A790, H⟩ := H
           replace H : (some (js77, t317)) = some (r1, r2) := H
           have A79 := Aside0.mk A790
           clear A790
           simp only [Option.some.injEq, Prod.mk.injEq] at H
           obtain ⟨rfl, rfl⟩ := H
           go_wp2_with (first | ((with_reducible refine gate_callee (f := 37) rfl ?_); refine goesL_ (some 123) rfl rfl Tryd.func37 (by kernel_rfl) rfl #[.string (⟨#[109, 105, 115, 115, 105, 110, 103, 32, 101, 120, 112, 111, 110, 101, 110, 116, 32, 112, 97, 114, 116]⟩ : ByteArray)] rfl (by (try simp only [List.map_toArray, List.map_cons, List.map_nil]); first | done | rfl | (simp only [List.length_drop, List.length_take]; rfl)) ?_; (with_reducible refine (errors_New.calls (⟨#[109, 105, 115, 115, 105, 110, 103, 32, 101, 120, 112, 111, 110, 101, 110, 116, 32, 112, 97, 114, 116]⟩ : ByteArray) t317 _ A79.out).mono ?_); rintro e w80 ⟨evt317, rfl, hb⟩; refine ⟨_, rfl, ?_⟩; have n0_ := Aside0.mk (below_step (by repeat (first | (with_reducible first | exact HB.out | apply below_alloc | apply pw_below_drewN | apply below_drew1) | exact HB.out)) hb); clear HB; have HB := n0_; clear n0_; (try clear hb); (try clear hb2); (try clear hk); (try clear hi); (try simp only [errX_none, errX_some])))
           go_ret2
           first | exact ⟨evt317, by first | rfl | (simp [errX_none, errX_some] <;> rfl) | (simp only [← hji62, ← hjs65, ← hjs77]; first | rfl | (simp [errX_none, errX_some] <;> rfl)) | (simp [*, errX_none, errX_some] <;> rfl), by repeat (first | (with_reducible first | exact HB.out | apply below_alloc | apply pw_below_drewN | apply below_drew1) | exact HB.out)⟩ | exact ⟨⟨(evt317).1, (evt317).2, by first | rfl | (simp [errX_none, errX_some] <;> rfl) | (simp only [← hji62, ← hjs65, ← hjs77]; first | rfl | (simp [errX_none, errX_some] <;> rfl)) | (simp [*, errX_none, errX_some] <;> rfl)⟩, by repeat (first | (with_reducible first | exact HB.out | apply below_alloc | apply pw_below_drewN | apply below_drew1) | exact HB.out)⟩
          rw [if_neg c78] at H
          have c78b0 : ((js77.size : Int) == 0) = false := beq_eq_false_iff_ne.mpr c78
          have c78b1 : ((js77.size : Int) != 0) = true := bne_iff_ne.mpr c78
          (first | rw [c78b0] | (simp only [i64_w, i32_w]; rw [c78b0]) | rw [c78b1] | skip)
          have H' := Aside0.mk H
          clear H
          go_wp2
          go_meet
          case rel => exact ⟨_, (js77), (by first | rfl | (simp; done) | (simp only [← hjs77] <;> (first | rfl | simp); done) | (simp [nil_ne_, nil_eq_]; done) | (simp [*]; done)), (by first | exact H' | (rw [hjs77]; exact H') | (simp only [hji62, hjs65, hjs77]; exact H') | (simp only [hji62, hjs65, hjs77] at H' ⊢; exact H')), ⟨by have := HJ6.out; have := HJ13.out; have := HJ23.out; have := HJ34.out; have := HJ54.out; have := HJ68.out; first | omega | exact Nat.le_refl _⟩, ⟨by repeat (first | (with_reducible first | exact HB.out | apply below_alloc | apply pw_below_drewN | apply below_drew1) | exact HB.out)⟩⟩
         rw [if_neg c76] at H
         exact absurd H (by simp)
        replace c75 := Bool.eq_false_iff.mpr c75
        subst c75
        have H1 : (fastjson_validateNumber.j9 kj68 js65) = some (r1, r2) := by rw [if_neg (show ¬ (false = true) by decide)] at H; exact H
        clear H
        have H := H1
        clear H1
        have H' := Aside0.mk H
        clear H
        go_wp2
        go_meet
        case rel => exact ⟨_, (js65), (by first | rfl | (simp; done) | (simp only [← hjs65] <;> (first | rfl | simp); done) | (simp [nil_ne_, nil_eq_]; done) | (simp [*]; done)), (by first | exact H' | (rw [hjs65]; exact H') | (simp only [hji62, hjs65]; exact H') | (simp only [hji62, hjs65] at H' ⊢; exact H')), ⟨by have := HJ6.out; have := HJ13.out; have := HJ23.out; have := HJ34.out; have := HJ54.out; have := HJ68.out; first | omega | exact Nat.le_refl _⟩, ⟨by repeat (first | (with_reducible first | exact HB.out | apply below_alloc | apply pw_below_drewN | apply below_drew1) | exact HB.out)⟩⟩
       clear HC74
       try clear c1
       try clear p1
       try clear q1
       try clear hx1
       try clear c2
       try clear c2b0
       try clear c2b1
       try clear p2
       try clear q2
       try clear hx2
       try clear qi2
       try clear c3
       try clear p3
       try clear q3
       try clear hx3
       try clear c4
       try clear p4
       try clear q4
       try clear hx4
       try clear c5
       try clear c5b0
       try clear c5b1
       try clear p5
       try clear q5
       try clear hx5
       try clear c6
       try clear p6
       try clear q6
       try clear hx6
       try clear qi6
       try clear c7
       try clear p7
       try clear q7
       try clear hx7
       try clear qi7
       try clear c8
       try clear c8b0
       try clear c8b1
       try clear c9
       try clear c9b0
       try clear c9b1
       try clear c11
       try clear c11b0
       try clear c11b1
       try clear c15
       try clear c15b0
       try clear c15b1
       try clear c16
       try clear c16b0
       try clear p17
       try clear q17
       try clear hx17
       try clear c18
       try clear c18b0
       try clear p19
       try clear q19
       try clear hx19
       try clear c20
       try clear c20b0
       try clear c21
       try clear c21b0
       try clear c25
       try clear c25b0
       try clear c25b1
       try clear p26
       try clear q26
       try clear hx26
       try clear qi26
       try clear c27
       try clear c27b0
       try clear c27b1
       try clear c28
       try clear c31
       try clear c31b0
       try clear c32
       try clear c32b0
       try clear c33
       try clear c33b0
       try clear p34
       try clear q34
       try clear hx34
       try clear c36
       try clear c36b0
       try clear c36b1
       try clear c37
       try clear c38
       try clear c38b0
       try clear c38b1
       try clear c39
       try clear c39b0
       try clear c39b1
       try clear c41
       try clear c41b0
       try clear c41b1
       try clear c45
       try clear c45b0
       try clear c45b1
       try clear c46
       try clear c46b0
       try clear p47
       try clear q47
       try clear hx47
       try clear c48
       try clear c48b0
       try clear p49
       try clear q49
       try clear hx49
       try clear c50
       try clear c50b0
       try clear c51
       try clear c51b0
       try clear c51b1
       try clear c54
       try clear c54b0
       try clear c56
       try clear c56b0
       try clear c56b1
       try clear c57
       try clear c57b0
       try clear p58
       try clear q58
       try clear hx58
       try clear c59
       try clear c59b0
       try clear c59b1
       try clear p60
       try clear q60
       try clear hx60
       try clear c61
       try clear c63
       try clear c63b0
       try clear c63b1
       try clear c64
       try clear c64b0
       try clear c64b1
       try clear p64
       try clear c66
       try clear c66b0
       try clear c66b1
       try clear c70
       try clear c70b0
       try clear c70b1
       try clear p71
       try clear q71
       try clear hx71
       try clear qi71
       try clear c72
       try clear c72b0
       try clear c72b1
       try clear p73
       try clear q73
       try clear hx73
       try clear qi73
       try clear c75
       try clear c76
       try clear c76b0
       try clear c76b1
       try clear c78
       try clear c78b0
       try clear c78b1
       try clear p1
       try clear p17
       try clear p19
       try clear p2
       try clear p26
       try clear p3
       try clear p34
       try clear p4
       try clear p47
       try clear p49
       try clear p5
       try clear p58
       try clear p6
       try clear p60
       try clear p64
       try clear p7
       try clear p71
       try clear p73
       try clear q1
       try clear q17
       try clear q19
       try clear q2
       try clear q26
       try clear q3
       try clear q34
       try clear q4
       try clear q47
       try clear q49
       try clear q5
       try clear q58
       try clear q6
       try clear q60
       try clear q7
       try clear q71
       try clear q73
       obtain ⟨kq, x0_73, rfl, HA, HJ73, HB⟩ := hcut
       rcases kq with _ | kj73
       · exact absurd HA.out (by simp [fastjson_validateNumber.j9])
       have H := HA.out
       clear HA
       simp only [fastjson_validateNumber.j9] at H
       have HC81 := Aside0.mk H
       clear H
       go_upto_block 4 with (fail)
       go_cut [4] (fun v4 wc => ∃ (kq : Nat) (x4_80 : Int), v4 = .int .i64 x4_80 ∧ Aside0 (fastjson_validateNumber.j11 kq x0_73 x4_80 = some (r1, r2)) ∧ Aside0 (kq ≤ kj73) ∧ Aside0 (Below w.heap.size w wc))
       case first =>
        have H := HC81.out
        clear HC81
        have H' := Aside0.mk H
        clear H
        go_wp2
        try simp only [Act.put, List.setIfInBounds_toArray, List.set_cons_succ, List.set_cons_zero]
        go_loopg [4] kj73 (fun kq v4 w' => ∃ (x4_8 : Int), v4 = .int .i64 x4_8 ∧ Aside0 (fastjson_validateNumber.l2 kq x0_73 x4_8 = some (r1, r2)) ∧ Aside0 (kq ≤ kj73) ∧ Aside0 (Below w.heap.size w w'))
        case atStart => exact ⟨(0), (by first | rfl | (simp; done) | (simp [nil_ne_, nil_eq_]; done) | (simp [*]; done)), H', ⟨Nat.le_refl _⟩, ⟨by repeat (first | (with_reducible first | exact HB.out | apply below_alloc | apply pw_below_drewN | apply below_drew1) | exact HB.out)⟩⟩
        case round =>
         clear H'
         try clear c1
         try clear p1
         try clear q1
         try clear hx1
         try clear c2
         try clear c2b0
         try clear c2b1
         try clear p2
         try clear q2
         try clear hx2
         try clear qi2
         try clear c3
         try clear p3
         try clear q3
         try clear hx3
         try clear c4
         try clear p4
         try clear q4
         try clear hx4
         try clear c5
         try clear c5b0
         try clear c5b1
         try clear p5
         try clear q5
         try clear hx5
         try clear c6
         try clear p6
         try clear q6
         try clear hx6
         try clear qi6
         try clear c7
         try clear p7
         try clear q7
         try clear hx7
         try clear qi7
         try clear c8
         try clear c8b0
         try clear c8b1
         try clear c9
         try clear c9b0
         try clear c9b1
         try clear c11
         try clear c11b0
         try clear c11b1
         try clear c15
         try clear c15b0
         try clear c15b1
         try clear c16
         try clear c16b0
         try clear p17
         try clear q17
         try clear hx17
         try clear c18
         try clear c18b0
         try clear p19
         try clear q19
         try clear hx19
         try clear c20
         try clear c20b0
         try clear c21
         try clear c21b0
         try clear c25
         try clear c25b0
         try clear c25b1
         try clear p26
         try clear q26
         try clear hx26
         try clear qi26
         try clear c27
         try clear c27b0
         try clear c27b1
         try clear c28
         try clear c31
         try clear c31b0
         try clear c32
         try clear c32b0
         try clear c33
         try clear c33b0
         try clear p34
         try clear q34
         try clear hx34
         try clear c36
         try clear c36b0
         try clear c36b1
         try clear c37
         try clear c38
         try clear c38b0
         try clear c38b1
         try clear c39
         try clear c39b0
         try clear c39b1
         try clear c41
         try clear c41b0
         try clear c41b1
         try clear c45
         try clear c45b0
         try clear c45b1
         try clear c46
         try clear c46b0
         try clear p47
         try clear q47
         try clear hx47
         try clear c48
         try clear c48b0
         try clear p49
         try clear q49
         try clear hx49
         try clear c50
         try clear c50b0
         try clear c51
         try clear c51b0
         try clear c51b1
         try clear c54
         try clear c54b0
         try clear c56
         try clear c56b0
         try clear c56b1
         try clear c57
         try clear c57b0
         try clear p58
         try clear q58
         try clear hx58
         try clear c59
         try clear c59b0
         try clear c59b1
         try clear p60
         try clear q60
         try clear hx60
         try clear c61
         try clear c63
         try clear c63b0
         try clear c63b1
         try clear c64
         try clear c64b0
         try clear c64b1
         try clear p64
         try clear c66
         try clear c66b0
         try clear c66b1
         try clear c70
         try clear c70b0
         try clear c70b1
         try clear p71
         try clear q71
         try clear hx71
         try clear qi71
         try clear c72
         try clear c72b0
         try clear c72b1
         try clear p73
         try clear q73
         try clear hx73
         try clear qi73
         try clear c75
         try clear c76
         try clear c76b0
         try clear c76b1
         try clear c78
         try clear c78b0
         try clear c78b1
         try clear p1
         try clear p17
         try clear p19
         try clear p2
         try clear p26
         try clear p3
         try clear p34
         try clear p4
         try clear p47
         try clear p49
         try clear p5
         try clear p58
         try clear p6
         try clear p60
         try clear p64
         try clear p7
         try clear p71
         try clear p73
         try clear q1
         try clear q17
         try clear q19
         try clear q2
         try clear q26
         try clear q3
         try clear q34
         try clear q4
         try clear q47
         try clear q49
         try clear q5
         try clear q58
         try clear q6
         try clear q60
         try clear q7
         try clear q71
         try clear q73
         obtain ⟨x4_8, rfl, HA, HK8, HB⟩ := hrel
         rcases gk with _ | k8
         · exact absurd HA.out (by simp [fastjson_validateNumber.l2])
         have H := HA.out
         clear HA
         simp only [fastjson_validateNumber.l2] at H
         by_cases c82 : x4_8 < (x0_73.size : Int)
         ·
          rw [if_pos c82] at H
          have c82b0 : decide (x4_8 < (x0_73.size : Int)) = true := decide_eq_true c82
          clear c82
          (first | rw [c82b0] | (simp only [i64_w, i32_w]; rw [c82b0]) | rw [c82b1] | skip)
          by_cases c83 : 0 ≤ x4_8
          ·
           rw [if_pos c83] at H
           have c83b0 : decide (0 ≤ x4_8) = true := decide_eq_true c83
           clear c83
           by_cases c85 : (bt x0_73 x4_8) < 48
           ·
            rw [if_pos c85] at H
            have c85b0 : decide ((bt x0_73 x4_8) < 48) = true := decide_eq_true c85
            clear c85
            have H' := Aside0.mk H
            clear H
            have p84 : 0 ≤ (x4_8 : Int) := of_decide_eq_true (by first | (with_reducible assumption) | assumption)
            have q84 : x4_8 < (x0_73.size : Int) := of_decide_eq_true (by first | (with_reducible assumption) | assumption)
            have hx84 := bt_at x0_73 x4_8
            replace p84 := eq_true p84
            replace q84 := eq_true q84
            go_wp2
            go_meet
            case rel => exact ⟨_, (x4_8), (by first | rfl | (simp; done) | (simp [nil_ne_, nil_eq_]; done) | (simp [*]; done)), (by first | exact H' | (rw [hjs65]; exact H') | (simp only [hji62, hjs65]; exact H') | (simp only [hji62, hjs65] at H' ⊢; exact H')), ⟨by have := HJ6.out; have := HJ13.out; have := HJ23.out; have := HJ34.out; have := HJ54.out; have := HJ68.out; have := HJ73.out; have := HK8.out; first | omega | exact Nat.le_refl _⟩, ⟨by repeat (first | (with_reducible first | exact HB.out | apply below_alloc | apply pw_below_drewN | apply below_drew1) | exact HB.out)⟩⟩
           rw [if_neg c85] at H
           have c85b0 : decide ((bt x0_73 x4_8) < 48) = false := decide_eq_false c85
           clear c85
           by_cases c87 : (bt x0_73 x4_8) > 57
           ·
            rw [if_pos c87] at H
            have c87b0 : decide (57 < (bt x0_73 x4_8)) = true := decide_eq_true c87
            clear c87
            have H' := Aside0.mk H
            clear H
            have p84 : 0 ≤ (x4_8 : Int) := of_decide_eq_true (by first | (with_reducible assumption) | assumption)
            have q84 : x4_8 < (x0_73.size : Int) := of_decide_eq_true (by first | (with_reducible assumption) | assumption)
            have hx84 := bt_at x0_73 x4_8
            replace p84 := eq_true p84
            replace q84 := eq_true q84
            have p86 : 0 ≤ (x4_8 : Int) := of_decide_eq_true (by first | (with_reducible assumption) | assumption)
            have q86 : x4_8 < (x0_73.size : Int) := of_decide_eq_true (by first | (with_reducible assumption) | assumption)
            have hx86 := bt_at x0_73 x4_8
            replace p86 := eq_true p86
            replace q86 := eq_true q86
            go_wp2
            go_meet
            case rel => exact ⟨_, (x4_8), (by first | rfl | (simp; done) | (simp [nil_ne_, nil_eq_]; done) | (simp [*]; done)), (by first | exact H' | (rw [hjs65]; exact H') | (simp only [hji62, hjs65]; exact H') | (simp only [hji62, hjs65] at H' ⊢; exact H')), ⟨by have := HJ6.out; have := HJ13.out; have := HJ23.out; have := HJ34.out; have := HJ54.out; have := HJ68.out; have := HJ73.out; have := HK8.out; first | omega | exact Nat.le_refl _⟩, ⟨by repeat (first | (with_reducible first | exact HB.out | apply below_alloc | apply pw_below_drewN | apply below_drew1) | exact HB.out)⟩⟩
           rw [if_neg c87] at H
           have c87b0 : decide (57 < (bt x0_73 x4_8)) = false := decide_eq_false c87
           clear c87
           have H' := Aside0.mk H
           clear H
           have p84 : 0 ≤ (x4_8 : Int) := of_decide_eq_true (by first | (with_reducible assumption) | assumption)
           have q84 : x4_8 < (x0_73.size : Int) := of_decide_eq_true (by first | (with_reducible assumption) | assumption)
           have hx84 := bt_at x0_73 x4_8
           replace p84 := eq_true p84
           replace q84 := eq_true q84
           have p86 : 0 ≤ (x4_8 : Int) := of_decide_eq_true (by first | (with_reducible assumption) | assumption)
           have q86 : x4_8 < (x0_73.size : Int) := of_decide_eq_true (by first | (with_reducible assumption) | assumption)
           have hx86 := bt_at x0_73 x4_8
           replace p86 := eq_true p86
           replace q86 := eq_true q86
           go_wp2
           go_roundg k8
           case measure => have := HJ6.out; have := HJ13.out; have := HJ23.out; have := HJ34.out; have := HJ54.out; have := HJ68.out; have := HJ73.out; have := HK8.out; omega
           case rel => exact ⟨(wrap64 (x4_8 + 1)), (by first | rfl | (simp; done) | (simp [nil_ne_, nil_eq_]; done) | (simp [*]; done)), (by first | exact H' | (rw [hjs65]; exact H') | (simp only [hji62, hjs65]; exact H') | (simp only [hji62, hjs65] at H' ⊢; exact H')), ⟨by have := HJ6.out; have := HJ13.out; have := HJ23.out; have := HJ34.out; have := HJ54.out; have := HJ68.out; have := HJ73.out; have := HK8.out; omega⟩, ⟨by repeat (first | (with_reducible first | exact HB.out | apply below_alloc | apply pw_below_drewN | apply below_drew1) | exact HB.out)⟩⟩
          rw [if_neg c83] at H
          exact absurd H (by simp)
         rw [if_neg c82] at H
         have c82b0 : decide (x4_8 < (x0_73.size : Int)) = false := decide_eq_false c82
         clear c82
         (first | rw [c82b0] | (simp only [i64_w, i32_w]; rw [c82b0]) | rw [c82b1] | skip)
         have H' := Aside0.mk H
         clear H
         go_wp2
         go_meet
         case rel => exact ⟨_, (x4_8), (by first | rfl | (simp; done) | (simp [nil_ne_, nil_eq_]; done) | (simp [*]; done)), (by first | exact H' | (rw [hjs65]; exact H') | (simp only [hji62, hjs65]; exact H') | (simp only [hji62, hjs65] at H' ⊢; exact H')), ⟨by have := HJ6.out; have := HJ13.out; have := HJ23.out; have := HJ34.out; have := HJ54.out; have := HJ68.out; have := HJ73.out; have := HK8.out; first | omega | exact Nat.le_refl _⟩, ⟨by repeat (first | (with_reducible first | exact HB.out | apply below_alloc | apply pw_below_drewN | apply below_drew1) | exact HB.out)⟩⟩
       clear HC81
       try clear c1
       try clear p1
       try clear q1
       try clear hx1
       try clear c2
       try clear c2b0
       try clear c2b1
       try clear p2
       try clear q2
       try clear hx2
       try clear qi2
       try clear c3
       try clear p3
       try clear q3
       try clear hx3
       try clear c4
       try clear p4
       try clear q4
       try clear hx4
       try clear c5
       try clear c5b0
       try clear c5b1
       try clear p5
       try clear q5
       try clear hx5
       try clear c6
       try clear p6
       try clear q6
       try clear hx6
       try clear qi6
       try clear c7
       try clear p7
       try clear q7
       try clear hx7
       try clear qi7
       try clear c8
       try clear c8b0
       try clear c8b1
       try clear p8
       try clear q8
       try clear hx8
       try clear c9
       try clear c9b0
       try clear c9b1
       try clear c11
       try clear c11b0
       try clear c11b1
       try clear c15
       try clear c15b0
       try clear c15b1
       try clear c16
       try clear c16b0
       try clear p17
       try clear q17
       try clear hx17
       try clear c18
       try clear c18b0
       try clear p19
       try clear q19
       try clear hx19
       try clear c20
       try clear c20b0
       try clear c21
       try clear c21b0
       try clear c25
       try clear c25b0
       try clear c25b1
       try clear p26
       try clear q26
       try clear hx26
       try clear qi26
       try clear c27
       try clear c27b0
       try clear c27b1
       try clear c28
       try clear c31
       try clear c31b0
       try clear c32
       try clear c32b0
       try clear c33
       try clear c33b0
       try clear p34
       try clear q34
       try clear hx34
       try clear c36
       try clear c36b0
       try clear c36b1
       try clear c37
       try clear c38
       try clear c38b0
       try clear c38b1
       try clear c39
       try clear c39b0
       try clear c39b1
       try clear c41
       try clear c41b0
       try clear c41b1
       try clear c45
       try clear c45b0
       try clear c45b1
       try clear c46
       try clear c46b0
       try clear p47
       try clear q47
       try clear hx47
       try clear c48
       try clear c48b0
       try clear p49
       try clear q49
       try clear hx49
       try clear c50
       try clear c50b0
       try clear c51
       try clear c51b0
       try clear c51b1
       try clear c54
       try clear c54b0
       try clear c56
       try clear c56b0
       try clear c56b1
       try clear c57
       try clear c57b0
       try clear p58
       try clear q58
       try clear hx58
       try clear c59
       try clear c59b0
       try clear c59b1
       try clear p60
       try clear q60
       try clear hx60
       try clear c61
       try clear c63
       try clear c63b0
       try clear c63b1
       try clear c64
       try clear c64b0
       try clear c64b1
       try clear p64
       try clear c66
       try clear c66b0
       try clear c66b1
       try clear c70
       try clear c70b0
       try clear c70b1
       try clear p71
       try clear q71
       try clear hx71
       try clear qi71
       try clear c72
       try clear c72b0
       try clear c72b1
       try clear p73
       try clear q73
       try clear hx73
       try clear qi73
       try clear c75
       try clear c76
       try clear c76b0
       try clear c76b1
       try clear c78
       try clear c78b0
       try clear c78b1
       try clear c82
       try clear c82b0
       try clear c82b1
       try clear c83
       try clear c83b0
       try clear p84
       try clear q84
       try clear hx84
       try clear c85
       try clear c85b0
       try clear p86
       try clear q86
       try clear hx86
       try clear c87
       try clear c87b0
       try clear p1
       try clear p17
       try clear p19
       try clear p2
       try clear p26
       try clear p3
       try clear p34
       try clear p4
       try clear p47
       try clear p49
       try clear p5
       try clear p58
       try clear p6
       try clear p60
       try clear p64
       try clear p7
       try clear p71
       try clear p73
       try clear p84
       try clear p86
       try clear q1
       try clear q17
       try clear q19
       try clear q2
       try clear q26
       try clear q3
       try clear q34
       try clear q4
       try clear q47
       try clear q49
       try clear q5
       try clear q58
       try clear q6
       try clear q60
       try clear q7
       try clear q71
       try clear q73
       try clear q84
       try clear q86
       obtain ⟨kq, x4_80, rfl, HA, HJ80, HB⟩ := hcut
       rcases kq with _ | kj80
       · exact absurd HA.out (by simp [fastjson_validateNumber.j11])
       have H := HA.out
       clear HA
       simp only [fastjson_validateNumber.j11] at H
       by_cases c88 : x4_80 = 0
       ·
        rw [if_pos c88] at H
        have c88b0 : (x4_80 == 0) = true := beq_iff_eq.mpr c88
        have c88b1 : (x4_80 != 0) = false := bne_eq_false_iff_eq.mpr c88
        clear c88
        replace H := Option.bind_eq_some_iff.mp H
        obtain ⟨t318, A890, H⟩ := H
        replace H : (some (x0_73, t318)) = some (r1, r2) := H
        have A89 := Aside0.mk A890
        clear A890
        simp only [Option.some.injEq, Prod.mk.injEq] at H
        obtain ⟨rfl, rfl⟩ := H
        go_wp2_with (first | ((with_reducible refine gate_callee (f := 37) rfl ?_); refine goesL_ (some 143) rfl rfl Tryd.func37 (by kernel_rfl) rfl #[.string (⟨#[101, 120, 112, 101, 99, 116, 105, 110, 103, 32, 48, 46, 46, 57, 32, 100, 105, 103, 105, 116, 32, 105, 110, 32, 101, 120, 112, 111, 110, 101, 110, 116, 32, 112, 97, 114, 116, 44, 32, 103, 111, 116]⟩ : ByteArray)] rfl (by (try simp only [List.map_toArray, List.map_cons, List.map_nil]); first | done | rfl | (simp only [List.length_drop, List.length_take]; rfl)) ?_; (with_reducible refine (errors_New.calls (⟨#[101, 120, 112, 101, 99, 116, 105, 110, 103, 32, 48, 46, 46, 57, 32, 100, 105, 103, 105, 116, 32, 105, 110, 32, 101, 120, 112, 111, 110, 101, 110, 116, 32, 112, 97, 114, 116, 44, 32, 103, 111, 116]⟩ : ByteArray) t318 _ A89.out).mono ?_); rintro e w90 ⟨evt318, rfl, hb⟩; refine ⟨_, rfl, ?_⟩; have n0_ := Aside0.mk (below_step (by repeat (first | (with_reducible first | exact HB.out | apply below_alloc | apply pw_below_drewN | apply below_drew1) | exact HB.out)) hb); clear HB; have HB := n0_; clear n0_; (try clear hb); (try clear hb2); (try clear hk); (try clear hi); (try simp only [errX_none, errX_some])))
        go_ret2
        first | exact ⟨evt318, by first | rfl | (simp [errX_none, errX_some] <;> rfl) | (simp only [← hji62, ← hjs65]; first | rfl | (simp [errX_none, errX_some] <;> rfl)) | (simp [*, errX_none, errX_some] <;> rfl), by repeat (first | (with_reducible first | exact HB.out | apply below_alloc | apply pw_below_drewN | apply below_drew1) | exact HB.out)⟩ | exact ⟨⟨(evt318).1, (evt318).2, by first | rfl | (simp [errX_none, errX_some] <;> rfl) | (simp only [← hji62, ← hjs65]; first | rfl | (simp [errX_none, errX_some] <;> rfl)) | (simp [*, errX_none, errX_some] <;> rfl)⟩, by repeat (first | (with_reducible first | exact HB.out | apply below_alloc | apply pw_below_drewN | apply below_drew1) | exact HB.out)⟩
       rw [if_neg c88] at H
       have c88b0 : (x4_80 == 0) = false := beq_eq_false_iff_ne.mpr c88
       have c88b1 : (x4_80 != 0) = true := bne_iff_ne.mpr c88
       by_cases c91 : x4_80 ≥ (x0_73.size : Int)
       ·
        rw [if_pos c91] at H
        have c91b0 : decide ((x0_73.size : Int) ≤ x4_80) = true := decide_eq_true c91
        clear c91
        simp only [Option.some.injEq, Prod.mk.injEq] at H
        obtain ⟨rfl, rfl⟩ := H
        go_wp2
        go_ret2
        first | exact ⟨(0, Value.nilIface), by first | rfl | (simp [errX_none, errX_some] <;> rfl) | (simp only [← hji62, ← hjs65]; first | rfl | (simp [errX_none, errX_some] <;> rfl)) | (simp [*, errX_none, errX_some] <;> rfl), by repeat (first | (with_reducible first | exact HB.out | apply below_alloc | apply pw_below_drewN | apply below_drew1) | exact HB.out)⟩ | exact ⟨⟨((0, Value.nilIface)).1, ((0, Value.nilIface)).2, by first | rfl | (simp [errX_none, errX_some] <;> rfl) | (simp only [← hji62, ← hjs65]; first | rfl | (simp [errX_none, errX_some] <;> rfl)) | (simp [*, errX_none, errX_some] <;> rfl)⟩, by repeat (first | (with_reducible first | exact HB.out | apply below_alloc | apply pw_below_drewN | apply below_drew1) | exact HB.out)⟩
       rw [if_neg c91] at H
       have c91b0 : decide ((x0_73.size : Int) ≤ x4_80) = false := decide_eq_false c91
       clear c91
       by_cases c92 : 0 ≤ x4_80
       ·
        rw [if_pos c92] at H
        have c92b0 := eq_true c92
        have c92b1 : decide (0 ≤ x4_80) = true := decide_eq_true c92
        clear c92
        by_cases c93 : x4_80 ≤ (x0_73.size : Int)
        ·
         rw [if_pos c93] at H
         have c93b0 := eq_true c93
         have c93b1 : decide (x4_80 ≤ (x0_73.size : Int)) = true := decide_eq_true c93
         clear c93
         obtain ⟨js94, hjs94⟩ : ∃ j_ : ByteArray, (x0_73.extract (x4_80 : Int).toNat x0_73.size) = j_ := ⟨_, rfl⟩
         skip
         replace H : (some (js94, none)) = some (r1, r2) := by first | (rw [hjs94] at H; exact H) | (simp only [hjs94] at H ⊢; exact H)
         simp only [Option.some.injEq, Prod.mk.injEq] at H
         obtain ⟨rfl, rfl⟩ := H
         go_wp2
         go_ret2
         first | exact ⟨(0, Value.nilIface), by first | rfl | (simp [errX_none, errX_some] <;> rfl) | (simp only [← hji62, ← hjs65, ← hjs94]; first | rfl | (simp [errX_none, errX_some] <;> rfl)) | (simp [*, errX_none, errX_some] <;> rfl), by repeat (first | (with_reducible first | exact HB.out | apply below_alloc | apply pw_below_drewN | apply below_drew1) | exact HB.out)⟩ | exact ⟨⟨((0, Value.nilIface)).1, ((0, Value.nilIface)).2, by first | rfl | (simp [errX_none, errX_some] <;> rfl) | (simp only [← hji62, ← hjs65, ← hjs94]; first | rfl | (simp [errX_none, errX_some] <;> rfl)) | (simp [*, errX_none, errX_some] <;> rfl)⟩, by repeat (first | (with_reducible first | exact HB.out | apply below_alloc | apply pw_below_drewN | apply below_drew1) | exact HB.out)⟩
        rw [if_neg c93] at H
        exact absurd H (by simp)
       rw [if_neg c92] at H
       exact absurd H (by simp)
      rw [if_neg c64] at H
      exact absurd H (by simp)
     rw [if_neg c63] at H
     exact absurd H (by simp)
    replace c61 := Bool.eq_false_iff.mpr c61
    subst c61
    have H1 : (if 0 ≤ x4_34 then (if x4_34 ≤ (x0_34.size : Int) then (some (x0_34.extract (x4_34 : Int).toNat x0_34.size, none)) else (none)) else (none)) = some (r1, r2) := by rw [if_neg (show ¬ (false = true) by decide)] at H; exact H
    clear H
    have H := H1
    clear H1
    by_cases c95 : 0 ≤ x4_34
    ·
     rw [if_pos c95] at H
     have c95b0 := eq_true c95
     have c95b1 : decide (0 ≤ x4_34) = true := decide_eq_true c95
     clear c95
     by_cases c96 : x4_34 ≤ (x0_34.size : Int)
     ·
      rw [if_pos c96] at H
      have c96b0 := eq_true c96
      have c96b1 : decide (x4_34 ≤ (x0_34.size : Int)) = true := decide_eq_true c96
      clear c96
      obtain ⟨js97, hjs97⟩ : ∃ j_ : ByteArray, (x0_34.extract (x4_34 : Int).toNat x0_34.size) = j_ := ⟨_, rfl⟩
      skip
      replace H : (some (js97, none)) = some (r1, r2) := by first | (rw [hjs97] at H; exact H) | (simp only [hjs97] at H ⊢; exact H)
      simp only [Option.some.injEq, Prod.mk.injEq] at H
      obtain ⟨rfl, rfl⟩ := H
      go_wp2
      go_ret2
      first | exact ⟨(0, Value.nilIface), by first | rfl | (simp [errX_none, errX_some] <;> rfl) | (simp only [← hjs97]; first | rfl | (simp [errX_none, errX_some] <;> rfl)) | (simp [*, errX_none, errX_some] <;> rfl), by repeat (first | (with_reducible first | exact HB.out | apply below_alloc | apply pw_below_drewN | apply below_drew1) | exact HB.out)⟩ | exact ⟨⟨((0, Value.nilIface)).1, ((0, Value.nilIface)).2, by first | rfl | (simp [errX_none, errX_some] <;> rfl) | (simp only [← hjs97]; first | rfl | (simp [errX_none, errX_some] <;> rfl)) | (simp [*, errX_none, errX_some] <;> rfl)⟩, by repeat (first | (with_reducible first | exact HB.out | apply below_alloc | apply pw_below_drewN | apply below_drew1) | exact HB.out)⟩
     rw [if_neg c96] at H
     exact absurd H (by simp)
    rw [if_neg c95] at H
    exact absurd H (by simp)
   rw [if_neg c33] at H
   exact absurd H (by simp)
  rw [if_neg c32] at H
  exact absurd H (by simp)
 rw [if_neg c5] at H
 exact absurd H (by simp)
end Go.Proofs.YtdhiihegfdmokaaDoor.PFnFjCheckObject