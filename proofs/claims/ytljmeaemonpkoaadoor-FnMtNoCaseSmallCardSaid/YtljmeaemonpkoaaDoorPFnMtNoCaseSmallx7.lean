-- Written by a program of this session (wip/prx) out of the print of the loaded functions.
import Derived.Test.YtljmeaemonpkoaaDoorPFnMtNoCaseSmallx0
import Derived.Test.YtljmeaemonpkoaaDoorPFnMtNoCaseSmallx4
import Derived.Test.YtljmeaemonpkoaaDoorPFnMtNoCaseSmallx6
import Derived.Test.YtljmeaemonpkoaaDoorGUFnMtNoCaseSmall
import Derived.Test.YtljmeaemonpkoaaDoorHSFnMtNoCaseSmall
namespace Go.Proofs.YtljmeaemonpkoaaDoor.PFnMtNoCaseSmall
open Go.RowKit Go.Proofs.YtljmeaemonpkoaaDoorW.PrintWords Go.Proofs.YtljmeaemonpkoaaDoorW.PrintLast Go.Proofs.YtljmeaemonpkoaaDoorW.PrintMore
attribute [local go_sem] max2_int min2_int max_two min_two max_three min_three max_four min_four   -- for this text's walks alone
set_option linter.unusedVariables false
set_option linter.unusedSimpArgs false

/-! ### match_match0: function 39 -/
def match_match0.f (k : Nat) (a0 : ByteArray) (a1 : ByteArray) (a2 : Bool) : Option (Bool) := if a1.toList = ([42] : List UInt8) then (some true) else ((match_match.f k a0 a1 0 () (-1) a2).bind fun t175 => (some (t175 == 1)))
theorem match_match0.mono : ∀ a0 a1 a2 k, LeO (match_match0.f k a0 a1 a2) (match_match0.f (k + 1) a0 a1 a2) := by
  intro a0 a1 a2 k
  unfold match_match0.f
  repeat' first
      | (with_reducible exact match_match.mono _ _ _ _ _ _ _)
      | (with_reducible exact LeO.refl _)
      | (with_reducible exact LeO.none _)
      | (with_reducible refine LeO.ite ?_ ?_)
      | (with_reducible refine LeO.bind ?_ (fun _ => ?_))
      | exact match_match.mono _ _ _ _ _ _ _
      | exact LeO.none _
      | refine LeO.ite ?_ ?_
      | refine LeO.bind ?_ (fun _ => ?_)
set_option maxHeartbeats 8000000 in
set_option maxRecDepth 100000 in
theorem match_match0.calls (k : Nat) (a0 : ByteArray) (a1 : ByteArray) (a2 : Bool) (r : Bool) (w : World) (h : match_match0.f k a0 a1 a2 = some r) (hG : Glob w) :
    Calls Tryd.prog 39 #[.string a0, .string a1, .bool a2] w fun e w' => e = .returned (.bool r) ∧ Below w.heap.size w w' := by
 have HB := Aside0.mk (Below.refl w.heap.size w)
 have HG := Aside0.mk hG
 clear hG
 have H : (if a1.toList = ([42] : List UInt8) then (some true) else ((match_match.f k a0 a1 0 () (-1) a2).bind fun t175 => (some (t175 == 1)))) = some r := h
 clear h
 by_cases c4 : a1.toList = ([42] : List UInt8)
 ·
  rw [if_pos c4] at H
  have c4b0 : (a1.toList == ([42] : List UInt8)) = true := beq_iff_eq.mpr c4
  have c4b1 : (a1.toList != ([42] : List UInt8)) = false := bne_eq_false_iff_eq.mpr c4
  clear c4
  obtain rfl := Option.some.inj H
  go_enter Tryd.func39, Tryd.ntmps39
  go_wp2
  go_ret
  exact ⟨by first | rfl | (simp [errX_none, errX_some] <;> rfl) | (simp [*, errX_none, errX_some] <;> rfl), by repeat (first | (with_reducible first | exact HB.out | apply below_alloc | apply pw_below_drewN | apply below_drew1) | exact HB.out)⟩
 ·
  rw [if_neg c4] at H
  have c4b0 : (a1.toList == ([42] : List UInt8)) = false := beq_eq_false_iff_ne.mpr c4
  have c4b1 : (a1.toList != ([42] : List UInt8)) = true := bne_iff_ne.mpr c4
  replace H := Option.bind_eq_some_iff.mp H
  obtain ⟨t175, A50, H⟩ := H
  replace H : (some (t175 == 1)) = some r := H
  have A5 := Aside0.mk A50
  clear A50
  obtain rfl := Option.some.inj H
  go_enter Tryd.func39, Tryd.ntmps39
  go_wp2_with (first | ((with_reducible refine gate_callee (f := 45) rfl ?_); refine goesL_ (some 12) rfl rfl Tryd.func45 (by kernel_rfl) rfl #[.string a0, .string a1, .int .i64 0, .pointer none, .int .i64 (-1), .bool a2] rfl (by (try simp only [List.map_toArray, List.map_cons, List.map_nil]); first | done | rfl | (simp only [List.length_drop, List.length_take]; rfl)) ?_; (with_reducible refine (match_match.calls k a0 a1 0 () (-1) a2 t175 _ A5.out (HG.out.below (by repeat (first | (with_reducible first | exact HB.out | apply below_alloc | apply pw_below_drewN | apply below_drew1) | exact HB.out)))).mono ?_); rintro e w6 ⟨rfl, hb⟩; refine ⟨_, rfl, ?_⟩; have n0_ := Aside0.mk (below_step (by repeat (first | (with_reducible first | exact HB.out | apply below_alloc | apply pw_below_drewN | apply below_drew1) | exact HB.out)) hb); clear HB; have HB := n0_; clear n0_; (try clear hb); (try clear hb2); (try clear hk); (try clear hi)))
  go_ret
  exact ⟨by first | rfl | (simp [errX_none, errX_some] <;> rfl) | (simp [*, errX_none, errX_some] <;> rfl), by repeat (first | (with_reducible first | exact HB.out | apply below_alloc | apply pw_below_drewN | apply below_drew1) | exact HB.out)⟩

/-! ### match_MatchNoCase: function 27 -/
def match_MatchNoCase.f (k : Nat) (a0 : ByteArray) (a1 : ByteArray) : Option (Bool) := (match_match0.f k a0 a1 true).bind fun t176 => (some t176)
theorem match_MatchNoCase.mono : ∀ a0 a1 k, LeO (match_MatchNoCase.f k a0 a1) (match_MatchNoCase.f (k + 1) a0 a1) := by
  intro a0 a1 k
  unfold match_MatchNoCase.f
  repeat' first
      | (with_reducible exact match_match0.mono _ _ _ _)
      | (with_reducible exact LeO.refl _)
      | (with_reducible exact LeO.none _)
      | (with_reducible refine LeO.ite ?_ ?_)
      | (with_reducible refine LeO.bind ?_ (fun _ => ?_))
      | exact match_match0.mono _ _ _ _
      | exact LeO.none _
      | refine LeO.ite ?_ ?_
      | refine LeO.bind ?_ (fun _ => ?_)
set_option maxHeartbeats 8000000 in
set_option maxRecDepth 100000 in
theorem match_MatchNoCase.calls (k : Nat) (a0 : ByteArray) (a1 : ByteArray) (r : Bool) (w : World) (h : match_MatchNoCase.f k a0 a1 = some r) (hG : Glob w) :
    Calls Tryd.prog 27 #[.string a0, .string a1] w fun e w' => e = .returned (.bool r) ∧ Below w.heap.size w w' := by
 have HB := Aside0.mk (Below.refl w.heap.size w)
 have HG := Aside0.mk hG
 clear hG
 have H : ((match_match0.f k a0 a1 true).bind fun t176 => (some t176)) = some r := h
 clear h
 replace H := Option.bind_eq_some_iff.mp H
 obtain ⟨t176, A30, H⟩ := H
 replace H : (some t176) = some r := H
 have A3 := Aside0.mk A30
 clear A30
 obtain rfl := Option.some.inj H
 go_enter Tryd.func27, Tryd.ntmps27
 go_wp2_with (first | ((with_reducible refine gate_callee (f := 39) rfl ?_); refine goesL_ (some 7) rfl rfl Tryd.func39 (by kernel_rfl) rfl #[.string a0, .string a1, .bool true] rfl (by (try simp only [List.map_toArray, List.map_cons, List.map_nil]); first | done | rfl | (simp only [List.length_drop, List.length_take]; rfl)) ?_; (with_reducible refine (match_match0.calls k a0 a1 true t176 _ A3.out (HG.out.below (by repeat (first | (with_reducible first | exact HB.out | apply below_alloc | apply pw_below_drewN | apply below_drew1) | exact HB.out)))).mono ?_); rintro e w4 ⟨rfl, hb⟩; refine ⟨_, rfl, ?_⟩; have n0_ := Aside0.mk (below_step (by repeat (first | (with_reducible first | exact HB.out | apply below_alloc | apply pw_below_drewN | apply below_drew1) | exact HB.out)) hb); clear HB; have HB := n0_; clear n0_; (try clear hb); (try clear hb2); (try clear hk); (try clear hi)))
 go_ret
 exact ⟨by first | rfl | (simp [errX_none, errX_some] <;> rfl) | (simp [*, errX_none, errX_some] <;> rfl), by repeat (first | (with_reducible first | exact HB.out | apply below_alloc | apply pw_below_drewN | apply below_drew1) | exact HB.out)⟩

/-! ### impl_MtNoCase: function 16 -/
def impl_MtNoCase.f (k : Nat) (a0 : ByteArray) (a1 : ByteArray) : Option (Bool) := (match_MatchNoCase.f k a0 a1).bind fun t177 => (some t177)
theorem impl_MtNoCase.mono : ∀ a0 a1 k, LeO (impl_MtNoCase.f k a0 a1) (impl_MtNoCase.f (k + 1) a0 a1) := by
  intro a0 a1 k
  unfold impl_MtNoCase.f
  repeat' first
      | (with_reducible exact match_MatchNoCase.mono _ _ _)
      | (with_reducible exact LeO.refl _)
      | (with_reducible exact LeO.none _)
      | (with_reducible refine LeO.ite ?_ ?_)
      | (with_reducible refine LeO.bind ?_ (fun _ => ?_))
      | exact match_MatchNoCase.mono _ _ _
      | exact LeO.none _
      | refine LeO.ite ?_ ?_
      | refine LeO.bind ?_ (fun _ => ?_)
set_option maxHeartbeats 8000000 in
set_option maxRecDepth 100000 in
theorem impl_MtNoCase.calls (k : Nat) (a0 : ByteArray) (a1 : ByteArray) (r : Bool) (w : World) (h : impl_MtNoCase.f k a0 a1 = some r) (hG : Glob w) :
    Calls Tryd.prog 16 #[.string a0, .string a1] w fun e w' => e = .returned (.bool r) ∧ Below w.heap.size w w' := by
 have HB := Aside0.mk (Below.refl w.heap.size w)
 have HG := Aside0.mk hG
 clear hG
 have H : ((match_MatchNoCase.f k a0 a1).bind fun t177 => (some t177)) = some r := h
 clear h
 replace H := Option.bind_eq_some_iff.mp H
 obtain ⟨t177, A30, H⟩ := H
 replace H : (some t177) = some r := H
 have A3 := Aside0.mk A30
 clear A30
 obtain rfl := Option.some.inj H
 go_enter Tryd.func16, Tryd.ntmps16
 go_wp2_with (first | ((with_reducible refine gate_callee (f := 27) rfl ?_); refine goesL_ (some 7) rfl rfl Tryd.func27 (by kernel_rfl) rfl #[.string a0, .string a1] rfl (by (try simp only [List.map_toArray, List.map_cons, List.map_nil]); first | done | rfl | (simp only [List.length_drop, List.length_take]; rfl)) ?_; (with_reducible refine (match_MatchNoCase.calls k a0 a1 t177 _ A3.out (HG.out.below (by repeat (first | (with_reducible first | exact HB.out | apply below_alloc | apply pw_below_drewN | apply below_drew1) | exact HB.out)))).mono ?_); rintro e w4 ⟨rfl, hb⟩; refine ⟨_, rfl, ?_⟩; have n0_ := Aside0.mk (below_step (by repeat (first | (with_reducible first | exact HB.out | apply below_alloc | apply pw_below_drewN | apply below_drew1) | exact HB.out)) hb); clear HB; have HB := n0_; clear n0_; (try clear hb); (try clear hb2); (try clear hk); (try clear hi)))
 go_ret
 exact ⟨by first | rfl | (simp [errX_none, errX_some] <;> rfl) | (simp [*, errX_none, errX_some] <;> rfl), by repeat (first | (with_reducible first | exact HB.out | apply below_alloc | apply pw_below_drewN | apply below_drew1) | exact HB.out)⟩

/-! ### match_Match: function 28 -/
def match_Match.f (k : Nat) (a0 : ByteArray) (a1 : ByteArray) : Option (Bool) := (match_match0.f k a0 a1 false).bind fun t178 => (some t178)
theorem match_Match.mono : ∀ a0 a1 k, LeO (match_Match.f k a0 a1) (match_Match.f (k + 1) a0 a1) := by
  intro a0 a1 k
  unfold match_Match.f
  repeat' first
      | (with_reducible exact match_match0.mono _ _ _ _)
      | (with_reducible exact LeO.refl _)
      | (with_reducible exact LeO.none _)
      | (with_reducible refine LeO.ite ?_ ?_)
      | (with_reducible refine LeO.bind ?_ (fun _ => ?_))
      | exact match_match0.mono _ _ _ _
      | exact LeO.none _
      | refine LeO.ite ?_ ?_
      | refine LeO.bind ?_ (fun _ => ?_)
set_option maxHeartbeats 8000000 in
set_option maxRecDepth 100000 in
theorem match_Match.calls (k : Nat) (a0 : ByteArray) (a1 : ByteArray) (r : Bool) (w : World) (h : match_Match.f k a0 a1 = some r) (hG : Glob w) :
    Calls Tryd.prog 28 #[.string a0, .string a1] w fun e w' => e = .returned (.bool r) ∧ Below w.heap.size w w' := by
 have HB := Aside0.mk (Below.refl w.heap.size w)
 have HG := Aside0.mk hG
 clear hG
 have H : ((match_match0.f k a0 a1 false).bind fun t178 => (some t178)) = some r := h
 clear h
 replace H := Option.bind_eq_some_iff.mp H
 obtain ⟨t178, A30, H⟩ := H
 replace H : (some t178) = some r := H
 have A3 := Aside0.mk A30
 clear A30
 obtain rfl := Option.some.inj H
 go_enter Tryd.func28, Tryd.ntmps28
 go_wp2_with (first | ((with_reducible refine gate_callee (f := 39) rfl ?_); refine goesL_ (some 7) rfl rfl Tryd.func39 (by kernel_rfl) rfl #[.string a0, .string a1, .bool false] rfl (by (try simp only [List.map_toArray, List.map_cons, List.map_nil]); first | done | rfl | (simp only [List.length_drop, List.length_take]; rfl)) ?_; (with_reducible refine (match_match0.calls k a0 a1 false t178 _ A3.out (HG.out.below (by repeat (first | (with_reducible first | exact HB.out | apply below_alloc | apply pw_below_drewN | apply below_drew1) | exact HB.out)))).mono ?_); rintro e w4 ⟨rfl, hb⟩; refine ⟨_, rfl, ?_⟩; have n0_ := Aside0.mk (below_step (by repeat (first | (with_reducible first | exact HB.out | apply below_alloc | apply pw_below_drewN | apply below_drew1) | exact HB.out)) hb); clear HB; have HB := n0_; clear n0_; (try clear hb); (try clear hb2); (try clear hk); (try clear hi)))
 go_ret
 exact ⟨by first | rfl | (simp [errX_none, errX_some] <;> rfl) | (simp [*, errX_none, errX_some] <;> rfl), by repeat (first | (with_reducible first | exact HB.out | apply below_alloc | apply pw_below_drewN | apply below_drew1) | exact HB.out)⟩

/-! ### impl_MtMatch: function 17 -/
def impl_MtMatch.f (k : Nat) (a0 : ByteArray) (a1 : ByteArray) : Option (Bool) := (match_Match.f k a0 a1).bind fun t179 => (some t179)
theorem impl_MtMatch.mono : ∀ a0 a1 k, LeO (impl_MtMatch.f k a0 a1) (impl_MtMatch.f (k + 1) a0 a1) := by
  intro a0 a1 k
  unfold impl_MtMatch.f
  repeat' first
      | (with_reducible exact match_Match.mono _ _ _)
      | (with_reducible exact LeO.refl _)
      | (with_reducible exact LeO.none _)
      | (with_reducible refine LeO.ite ?_ ?_)
      | (with_reducible refine LeO.bind ?_ (fun _ => ?_))
      | exact match_Match.mono _ _ _
      | exact LeO.none _
      | refine LeO.ite ?_ ?_
      | refine LeO.bind ?_ (fun _ => ?_)
set_option maxHeartbeats 8000000 in
set_option maxRecDepth 100000 in
theorem impl_MtMatch.calls (k : Nat) (a0 : ByteArray) (a1 : ByteArray) (r : Bool) (w : World) (h : impl_MtMatch.f k a0 a1 = some r) (hG : Glob w) :
    Calls Tryd.prog 17 #[.string a0, .string a1] w fun e w' => e = .returned (.bool r) ∧ Below w.heap.size w w' := by
 have HB := Aside0.mk (Below.refl w.heap.size w)
 have HG := Aside0.mk hG
 clear hG
 have H : ((match_Match.f k a0 a1).bind fun t179 => (some t179)) = some r := h
 clear h
 replace H := Option.bind_eq_some_iff.mp H
 obtain ⟨t179, A30, H⟩ := H
 replace H : (some t179) = some r := H
 have A3 := Aside0.mk A30
 clear A30
 obtain rfl := Option.some.inj H
 go_enter Tryd.func17, Tryd.ntmps17
 go_wp2_with (first | ((with_reducible refine gate_callee (f := 28) rfl ?_); refine goesL_ (some 7) rfl rfl Tryd.func28 (by kernel_rfl) rfl #[.string a0, .string a1] rfl (by (try simp only [List.map_toArray, List.map_cons, List.map_nil]); first | done | rfl | (simp only [List.length_drop, List.length_take]; rfl)) ?_; (with_reducible refine (match_Match.calls k a0 a1 t179 _ A3.out (HG.out.below (by repeat (first | (with_reducible first | exact HB.out | apply below_alloc | apply pw_below_drewN | apply below_drew1) | exact HB.out)))).mono ?_); rintro e w4 ⟨rfl, hb⟩; refine ⟨_, rfl, ?_⟩; have n0_ := Aside0.mk (below_step (by repeat (first | (with_reducible first | exact HB.out | apply below_alloc | apply pw_below_drewN | apply below_drew1) | exact HB.out)) hb); clear HB; have HB := n0_; clear n0_; (try clear hb); (try clear hb2); (try clear hk); (try clear hi)))
 go_ret
 exact ⟨by first | rfl | (simp [errX_none, errX_some] <;> rfl) | (simp [*, errX_none, errX_some] <;> rfl), by repeat (first | (with_reducible first | exact HB.out | apply below_alloc | apply pw_below_drewN | apply below_drew1) | exact HB.out)⟩

-- by hand (HS): function 18 (spec_Small)

/-! ### laws_FnMtNoCaseSmall: function 7 -/
def laws_FnMtNoCaseSmall.j0 : Nat → ByteArray → ByteArray → Bool → Option (Bool)
  | 0, _, _, _ => none
  | k + 1, x0, x1, x15 => if x15 = true then (some true) else ((laws_mtTold.f k x0 x1).bind fun bt180 => (if bt180.2 = true then ((impl_MtNoCase.f k x0 x1).bind fun t182 => ((spec_Small.f x0).bind fun t183 => ((spec_Small.f x1).bind fun t184 => ((impl_MtMatch.f k t183 t184).bind fun t185 => (if (t182 == t185) = true then (if t182 = true then (some true) else (some (!bt180.1))) else (some false)))))) else (some true)))
def laws_FnMtNoCaseSmall.f (k : Nat) (a0 : ByteArray) (a1 : ByteArray) : Option (Bool) := if (a0.size : Int) > 2147483647 then (laws_FnMtNoCaseSmall.j0 k a0 a1 true) else (laws_FnMtNoCaseSmall.j0 k a0 a1 (decide ((a1.size : Int) > 2147483647)))
theorem laws_FnMtNoCaseSmall.mono_l : ∀ k, (∀ y0 y1 y2, LeO (laws_FnMtNoCaseSmall.j0 k y0 y1 y2) (laws_FnMtNoCaseSmall.j0 (k + 1) y0 y1 y2))
  | 0 => fun _ _ _ r h => by simp [laws_FnMtNoCaseSmall.j0] at h
  | k + 1 => by
    have ih0 := laws_FnMtNoCaseSmall.mono_l k
    · intro y0 y1 y2
      unfold laws_FnMtNoCaseSmall.j0
      repeat' first
      | (with_reducible exact ih0 _ _ _)
      | (with_reducible exact impl_MtMatch.mono _ _ _)
      | (with_reducible exact impl_MtNoCase.mono _ _ _)
      | (with_reducible exact laws_mtTold.mono _ _ _)
      | (with_reducible exact LeO.refl _)
      | (with_reducible exact LeO.none _)
      | (with_reducible refine LeO.ite ?_ ?_)
      | (with_reducible refine LeO.bind ?_ (fun _ => ?_))
      | exact ih0 _ _ _
      | exact impl_MtMatch.mono _ _ _
      | exact impl_MtNoCase.mono _ _ _
      | exact laws_mtTold.mono _ _ _
      | exact LeO.none _
      | refine LeO.ite ?_ ?_
      | refine LeO.bind ?_ (fun _ => ?_)
theorem laws_FnMtNoCaseSmall.mono : ∀ a0 a1 k, LeO (laws_FnMtNoCaseSmall.f k a0 a1) (laws_FnMtNoCaseSmall.f (k + 1) a0 a1) := by
  intro a0 a1 k
  have ih0 := laws_FnMtNoCaseSmall.mono_l k
  unfold laws_FnMtNoCaseSmall.f
  repeat' first
      | (with_reducible exact ih0 _ _ _)
      | (with_reducible exact impl_MtMatch.mono _ _ _)
      | (with_reducible exact impl_MtNoCase.mono _ _ _)
      | (with_reducible exact laws_mtTold.mono _ _ _)
      | (with_reducible exact LeO.refl _)
      | (with_reducible exact LeO.none _)
      | (with_reducible refine LeO.ite ?_ ?_)
      | (with_reducible refine LeO.bind ?_ (fun _ => ?_))
      | exact ih0 _ _ _
      | exact impl_MtMatch.mono _ _ _
      | exact impl_MtNoCase.mono _ _ _
      | exact laws_mtTold.mono _ _ _
      | exact LeO.none _
      | refine LeO.ite ?_ ?_
      | refine LeO.bind ?_ (fun _ => ?_)
set_option maxHeartbeats 8000000 in
set_option maxRecDepth 100000 in
theorem laws_FnMtNoCaseSmall.calls (k : Nat) (a0 : ByteArray) (a1 : ByteArray) (r : Bool) (w : World) (h : laws_FnMtNoCaseSmall.f k a0 a1 = some r) (hG : Glob w) :
    Calls Tryd.prog 7 #[.string a0, .string a1] w fun e w' => e = .returned (.bool r) ∧ Below w.heap.size w w' := by
 have HB := Aside0.mk (Below.refl w.heap.size w)
 have HG := Aside0.mk hG
 clear hG
 have H : (if (a0.size : Int) > 2147483647 then (laws_FnMtNoCaseSmall.j0 k a0 a1 true) else (laws_FnMtNoCaseSmall.j0 k a0 a1 (decide ((a1.size : Int) > 2147483647)))) = some r := h
 clear h
 have HC3 := Aside0.mk H
 clear H
 go_enter Tryd.func7, Tryd.ntmps7
 go_upto_region 1 with (fail)
 go_cut [15] (fun v15 wc => ∃ (kq : Nat) (x15_2 : Bool), v15 = .bool x15_2 ∧ Aside0 (laws_FnMtNoCaseSmall.j0 kq a0 a1 x15_2 = some r) ∧ Aside0 (kq ≤ k) ∧ Aside0 (Below w.heap.size w wc))
 case first =>
  have H := HC3.out
  clear HC3
  by_cases c4 : (a0.size : Int) > 2147483647
  ·
   rw [if_pos c4] at H
   have c4b0 : decide (2147483647 < (a0.size : Int)) = true := decide_eq_true c4
   have c4b1 : decide (2147483647 < a0.size) = true := decide_eq_true (by omega)
   clear c4
   (first | rw [c4b0] | (simp only [i64_w, i32_w]; rw [c4b0]) | rw [c4b1] | skip)
   have H' := Aside0.mk H
   clear H
   go_wp2
   go_meet
   case rel => exact ⟨_, (true), (by first | rfl | (simp; done) | (simp [nil_ne_, nil_eq_]; done) | (simp [*]; done)), H', ⟨by first | omega | exact Nat.le_refl _⟩, ⟨by repeat (first | (with_reducible first | exact HB.out | apply below_alloc | apply pw_below_drewN | apply below_drew1) | exact HB.out)⟩⟩
  ·
   rw [if_neg c4] at H
   have c4b0 : decide (2147483647 < (a0.size : Int)) = false := decide_eq_false c4
   have c4b1 : decide (2147483647 < a0.size) = false := decide_eq_false (by omega)
   clear c4
   (first | rw [c4b0] | (simp only [i64_w, i32_w]; rw [c4b0]) | rw [c4b1] | skip)
   have H' := Aside0.mk H
   clear H
   go_wp2
   go_meet
   case rel => exact ⟨_, (decide ((a1.size : Int) > 2147483647)), (by first | rfl | (simp; done) | (simp [nil_ne_, nil_eq_]; done) | (simp [*]; done)), H', ⟨by first | omega | exact Nat.le_refl _⟩, ⟨by repeat (first | (with_reducible first | exact HB.out | apply below_alloc | apply pw_below_drewN | apply below_drew1) | exact HB.out)⟩⟩
 case rest =>
  clear HC3
  try clear p2
  try clear c4
  try clear c4b0
  try clear c4b1
  obtain ⟨kq, x15_2, rfl, HA, HJ2, HB⟩ := hcut
  cases kq with
  | zero => exact absurd HA.out (by simp [laws_FnMtNoCaseSmall.j0])
  | succ kj2 =>
   have H := HA.out
   clear HA
   simp only [laws_FnMtNoCaseSmall.j0] at H
   by_cases c5 : x15_2 = true
   ·
    subst c5
    have H1 : (some true) = some r := by rw [if_pos rfl] at H; exact H
    clear H
    have H := H1
    clear H1
    obtain rfl := Option.some.inj H
    go_wp2
    go_ret
    exact ⟨by first | rfl | (simp [errX_none, errX_some] <;> rfl) | (simp [*, errX_none, errX_some] <;> rfl), by repeat (first | (with_reducible first | exact HB.out | apply below_alloc | apply pw_below_drewN | apply below_drew1) | exact HB.out)⟩
   ·
    replace c5 := Bool.eq_false_iff.mpr c5
    subst c5
    have H1 : ((laws_mtTold.f kj2 a0 a1).bind fun bt180 => (if bt180.2 = true then ((impl_MtNoCase.f kj2 a0 a1).bind fun t182 => ((spec_Small.f a0).bind fun t183 => ((spec_Small.f a1).bind fun t184 => ((impl_MtMatch.f kj2 t183 t184).bind fun t185 => (if (t182 == t185) = true then (if t182 = true then (some true) else (some (!bt180.1))) else (some false)))))) else (some true))) = some r := by rw [if_neg (show ¬ (false = true) by decide)] at H; exact H
    clear H
    have H := H1
    clear H1
    replace H := Option.bind_eq_some_iff.mp H
    obtain ⟨⟨t180, t181⟩, A60, H⟩ := H
    replace H : (if t181 = true then ((impl_MtNoCase.f kj2 a0 a1).bind fun t182 => ((spec_Small.f a0).bind fun t183 => ((spec_Small.f a1).bind fun t184 => ((impl_MtMatch.f kj2 t183 t184).bind fun t185 => (if (t182 == t185) = true then (if t182 = true then (some true) else (some (!t180))) else (some false)))))) else (some true)) = some r := H
    have A6 := Aside0.mk A60
    clear A60
    by_cases c7 : t181 = true
    ·
     subst c7
     have H1 : ((impl_MtNoCase.f kj2 a0 a1).bind fun t182 => ((spec_Small.f a0).bind fun t183 => ((spec_Small.f a1).bind fun t184 => ((impl_MtMatch.f kj2 t183 t184).bind fun t185 => (if (t182 == t185) = true then (if t182 = true then (some true) else (some (!t180))) else (some false)))))) = some r := by rw [if_pos rfl] at H; exact H
     clear H
     have H := H1
     clear H1
     replace H := Option.bind_eq_some_iff.mp H
     obtain ⟨t182, A80, H⟩ := H
     replace H : ((spec_Small.f a0).bind fun t183 => ((spec_Small.f a1).bind fun t184 => ((impl_MtMatch.f kj2 t183 t184).bind fun t185 => (if (t182 == t185) = true then (if t182 = true then (some true) else (some (!t180))) else (some false))))) = some r := H
     have A8 := Aside0.mk A80
     clear A80
     replace H := Option.bind_eq_some_iff.mp H
     obtain ⟨t183, A90, H⟩ := H
     replace H : ((spec_Small.f a1).bind fun t184 => ((impl_MtMatch.f kj2 t183 t184).bind fun t185 => (if (t182 == t185) = true then (if t182 = true then (some true) else (some (!t180))) else (some false)))) = some r := H
     have A9 := Aside0.mk A90
     clear A90
     replace H := Option.bind_eq_some_iff.mp H
     obtain ⟨t184, A100, H⟩ := H
     replace H : ((impl_MtMatch.f kj2 t183 t184).bind fun t185 => (if (t182 == t185) = true then (if t182 = true then (some true) else (some (!t180))) else (some false))) = some r := H
     have A10 := Aside0.mk A100
     clear A100
     replace H := Option.bind_eq_some_iff.mp H
     obtain ⟨t185, A110, H⟩ := H
     replace H : (if (t182 == t185) = true then (if t182 = true then (some true) else (some (!t180))) else (some false)) = some r := H
     have A11 := Aside0.mk A110
     clear A110
     by_cases c12 : (t182 == t185) = true
     ·
      rw [if_pos c12] at H
      have c12b0 : (t182 == t185) = true := c12
      (try (have c12b1 : decide (t182 = t185) = true := by simpa using c12))
      (try (have c12b2 : (t182 == t185) = true := by simpa using c12))
      clear c12
      by_cases c13 : t182 = true
      ·
       subst c13
       have H1 : (some true) = some r := by rw [if_pos rfl] at H; exact H
       clear H
       have H := H1
       clear H1
       obtain rfl := Option.some.inj H
       go_wp2_with (first | ((with_reducible refine gate_callee (f := 14) rfl ?_); refine goesL_ (some 19) rfl rfl Tryd.func14 (by kernel_rfl) rfl #[.string a0, .string a1] rfl (by (try simp only [List.map_toArray, List.map_cons, List.map_nil]); first | done | rfl | (simp only [List.length_drop, List.length_take]; rfl)) ?_; (with_reducible refine (laws_mtTold.calls kj2 a0 a1 t180 true _ A6.out).mono ?_); rintro e w14 ⟨rfl, hb⟩; refine ⟨_, rfl, ?_⟩; have n0_ := Aside0.mk (below_step (by repeat (first | (with_reducible first | exact HB.out | apply below_alloc | apply pw_below_drewN | apply below_drew1) | exact HB.out)) hb); clear HB; have HB := n0_; clear n0_; (try clear hb); (try clear hb2); (try clear hk); (try clear hi)) | ((with_reducible refine gate_callee (f := 16) rfl ?_); refine goesL_ (some 26) rfl rfl Tryd.func16 (by kernel_rfl) rfl #[.string a0, .string a1] rfl (by (try simp only [List.map_toArray, List.map_cons, List.map_nil]); first | done | rfl | (simp only [List.length_drop, List.length_take]; rfl)) ?_; (with_reducible refine (impl_MtNoCase.calls kj2 a0 a1 true _ A8.out (HG.out.below (by repeat (first | (with_reducible first | exact HB.out | apply below_alloc | apply pw_below_drewN | apply below_drew1) | exact HB.out)))).mono ?_); rintro e w15 ⟨rfl, hb⟩; refine ⟨_, rfl, ?_⟩; have n0_ := Aside0.mk (below_step (by repeat (first | (with_reducible first | exact HB.out | apply below_alloc | apply pw_below_drewN | apply below_drew1) | exact HB.out)) hb); clear HB; have HB := n0_; clear n0_; (try clear hb); (try clear hb2); (try clear hk); (try clear hi)) | ((with_reducible refine gate_callee (f := 18) rfl ?_); refine goesL_ (some 29) rfl rfl Tryd.func18 (by kernel_rfl) rfl #[.string a0] rfl (by (try simp only [List.map_toArray, List.map_cons, List.map_nil]); first | done | rfl | (simp only [List.length_drop, List.length_take]; rfl)) ?_; (with_reducible refine (spec_Small.calls a0 t183 _ A9.out).mono ?_); rintro e w16 ⟨rfl, hb⟩; refine ⟨_, rfl, ?_⟩; have n0_ := Aside0.mk (below_step (by repeat (first | (with_reducible first | exact HB.out | apply below_alloc | apply pw_below_drewN | apply below_drew1) | exact HB.out)) hb); clear HB; have HB := n0_; clear n0_; (try clear hb); (try clear hb2); (try clear hk); (try clear hi)) | ((with_reducible refine gate_callee (f := 18) rfl ?_); refine goesL_ (some 31) rfl rfl Tryd.func18 (by kernel_rfl) rfl #[.string a1] rfl (by (try simp only [List.map_toArray, List.map_cons, List.map_nil]); first | done | rfl | (simp only [List.length_drop, List.length_take]; rfl)) ?_; (with_reducible refine (spec_Small.calls a1 t184 _ A10.out).mono ?_); rintro e w17 ⟨rfl, hb⟩; refine ⟨_, rfl, ?_⟩; have n0_ := Aside0.mk (below_step (by repeat (first | (with_reducible first | exact HB.out | apply below_alloc | apply pw_below_drewN | apply below_drew1) | exact HB.out)) hb); clear HB; have HB := n0_; clear n0_; (try clear hb); (try clear hb2); (try clear hk); (try clear hi)) | ((with_reducible refine gate_callee (f := 17) rfl ?_); refine goesL_ (some 32) rfl rfl Tryd.func17 (by kernel_rfl) rfl #[.string t183, .string t184] rfl (by (try simp only [List.map_toArray, List.map_cons, List.map_nil]); first | done | rfl | (simp only [List.length_drop, List.length_take]; rfl)) ?_; (with_reducible refine (impl_MtMatch.calls kj2 t183 t184 t185 _ A11.out (HG.out.below (by repeat (first | (with_reducible first | exact HB.out | apply below_alloc | apply pw_below_drewN | apply below_drew1) | exact HB.out)))).mono ?_); rintro e w18 ⟨rfl, hb⟩; refine ⟨_, rfl, ?_⟩; have n0_ := Aside0.mk (below_step (by repeat (first | (with_reducible first | exact HB.out | apply below_alloc | apply pw_below_drewN | apply below_drew1) | exact HB.out)) hb); clear HB; have HB := n0_; clear n0_; (try clear hb); (try clear hb2); (try clear hk); (try clear hi)))
       go_ret
       exact ⟨by first | rfl | (simp [errX_none, errX_some] <;> rfl) | (simp [*, errX_none, errX_some] <;> rfl), by repeat (first | (with_reducible first | exact HB.out | apply below_alloc | apply pw_below_drewN | apply below_drew1) | exact HB.out)⟩
      ·
       replace c13 := Bool.eq_false_iff.mpr c13
       subst c13
       have H1 : (some (!t180)) = some r := by rw [if_neg (show ¬ (false = true) by decide)] at H; exact H
       clear H
       have H := H1
       clear H1
       obtain rfl := Option.some.inj H
       go_wp2_with (first | ((with_reducible refine gate_callee (f := 14) rfl ?_); refine goesL_ (some 19) rfl rfl Tryd.func14 (by kernel_rfl) rfl #[.string a0, .string a1] rfl (by (try simp only [List.map_toArray, List.map_cons, List.map_nil]); first | done | rfl | (simp only [List.length_drop, List.length_take]; rfl)) ?_; (with_reducible refine (laws_mtTold.calls kj2 a0 a1 t180 true _ A6.out).mono ?_); rintro e w19 ⟨rfl, hb⟩; refine ⟨_, rfl, ?_⟩; have n0_ := Aside0.mk (below_step (by repeat (first | (with_reducible first | exact HB.out | apply below_alloc | apply pw_below_drewN | apply below_drew1) | exact HB.out)) hb); clear HB; have HB := n0_; clear n0_; (try clear hb); (try clear hb2); (try clear hk); (try clear hi)) | ((with_reducible refine gate_callee (f := 16) rfl ?_); refine goesL_ (some 26) rfl rfl Tryd.func16 (by kernel_rfl) rfl #[.string a0, .string a1] rfl (by (try simp only [List.map_toArray, List.map_cons, List.map_nil]); first | done | rfl | (simp only [List.length_drop, List.length_take]; rfl)) ?_; (with_reducible refine (impl_MtNoCase.calls kj2 a0 a1 false _ A8.out (HG.out.below (by repeat (first | (with_reducible first | exact HB.out | apply below_alloc | apply pw_below_drewN | apply below_drew1) | exact HB.out)))).mono ?_); rintro e w20 ⟨rfl, hb⟩; refine ⟨_, rfl, ?_⟩; have n0_ := Aside0.mk (below_step (by repeat (first | (with_reducible first | exact HB.out | apply below_alloc | apply pw_below_drewN | apply below_drew1) | exact HB.out)) hb); clear HB; have HB := n0_; clear n0_; (try clear hb); (try clear hb2); (try clear hk); (try clear hi)) | ((with_reducible refine gate_callee (f := 18) rfl ?_); refine goesL_ (some 29) rfl rfl Tryd.func18 (by kernel_rfl) rfl #[.string a0] rfl (by (try simp only [List.map_toArray, List.map_cons, List.map_nil]); first | done | rfl | (simp only [List.length_drop, List.length_take]; rfl)) ?_; (with_reducible refine (spec_Small.calls a0 t183 _ A9.out).mono ?_); rintro e w21 ⟨rfl, hb⟩; refine ⟨_, rfl, ?_⟩; have n0_ := Aside0.mk (below_step (by repeat (first | (with_reducible first | exact HB.out | apply below_alloc | apply pw_below_drewN | apply below_drew1) | exact HB.out)) hb); clear HB; have HB := n0_; clear n0_; (try clear hb); (try clear hb2); (try clear hk); (try clear hi)) | ((with_reducible refine gate_callee (f := 18) rfl ?_); refine goesL_ (some 31) rfl rfl Tryd.func18 (by kernel_rfl) rfl #[.string a1] rfl (by (try simp only [List.map_toArray, List.map_cons, List.map_nil]); first | done | rfl | (simp only [List.length_drop, List.length_take]; rfl)) ?_; (with_reducible refine (spec_Small.calls a1 t184 _ A10.out).mono ?_); rintro e w22 ⟨rfl, hb⟩; refine ⟨_, rfl, ?_⟩; have n0_ := Aside0.mk (below_step (by repeat (first | (with_reducible first | exact HB.out | apply below_alloc | apply pw_below_drewN | apply below_drew1) | exact HB.out)) hb); clear HB; have HB := n0_; clear n0_; (try clear hb); (try clear hb2); (try clear hk); (try clear hi)) | ((with_reducible refine gate_callee (f := 17) rfl ?_); refine goesL_ (some 32) rfl rfl Tryd.func17 (by kernel_rfl) rfl #[.string t183, .string t184] rfl (by (try simp only [List.map_toArray, List.map_cons, List.map_nil]); first | done | rfl | (simp only [List.length_drop, List.length_take]; rfl)) ?_; (with_reducible refine (impl_MtMatch.calls kj2 t183 t184 t185 _ A11.out (HG.out.below (by repeat (first | (with_reducible first | exact HB.out | apply below_alloc | apply pw_below_drewN | apply below_drew1) | exact HB.out)))).mono ?_); rintro e w23 ⟨rfl, hb⟩; refine ⟨_, rfl, ?_⟩; have n0_ := Aside0.mk (below_step (by repeat (first | (with_reducible first | exact HB.out | apply below_alloc | apply pw_below_drewN | apply below_drew1) | exact HB.out)) hb); clear HB; have HB := n0_; clear n0_; (try clear hb); (try clear hb2); (try clear hk); (try clear hi)))
       go_ret
       exact ⟨by first | rfl | (simp [errX_none, errX_some] <;> rfl) | (simp [*, errX_none, errX_some] <;> rfl), by repeat (first | (with_reducible first | exact HB.out | apply below_alloc | apply pw_below_drewN | apply below_drew1) | exact HB.out)⟩
     ·
      rw [if_neg c12] at H
      have c12b0 : (t182 == t185) = false := by simpa using c12
      (try (have c12b1 : decide (t182 = t185) = false := by simpa using c12))
      (try (have c12b2 : (t182 == t185) = false := by simpa using c12))
      (try (have c12b3 : ¬ (t182 = t185) := by simpa using c12))
      clear c12
      obtain rfl := Option.some.inj H
      go_wp2_with (first | ((with_reducible refine gate_callee (f := 14) rfl ?_); refine goesL_ (some 19) rfl rfl Tryd.func14 (by kernel_rfl) rfl #[.string a0, .string a1] rfl (by (try simp only [List.map_toArray, List.map_cons, List.map_nil]); first | done | rfl | (simp only [List.length_drop, List.length_take]; rfl)) ?_; (with_reducible refine (laws_mtTold.calls kj2 a0 a1 t180 true _ A6.out).mono ?_); rintro e w24 ⟨rfl, hb⟩; refine ⟨_, rfl, ?_⟩; have n0_ := Aside0.mk (below_step (by repeat (first | (with_reducible first | exact HB.out | apply below_alloc | apply pw_below_drewN | apply below_drew1) | exact HB.out)) hb); clear HB; have HB := n0_; clear n0_; (try clear hb); (try clear hb2); (try clear hk); (try clear hi)) | ((with_reducible refine gate_callee (f := 16) rfl ?_); refine goesL_ (some 26) rfl rfl Tryd.func16 (by kernel_rfl) rfl #[.string a0, .string a1] rfl (by (try simp only [List.map_toArray, List.map_cons, List.map_nil]); first | done | rfl | (simp only [List.length_drop, List.length_take]; rfl)) ?_; (with_reducible refine (impl_MtNoCase.calls kj2 a0 a1 t182 _ A8.out (HG.out.below (by repeat (first | (with_reducible first | exact HB.out | apply below_alloc | apply pw_below_drewN | apply below_drew1) | exact HB.out)))).mono ?_); rintro e w25 ⟨rfl, hb⟩; refine ⟨_, rfl, ?_⟩; have n0_ := Aside0.mk (below_step (by repeat (first | (with_reducible first | exact HB.out | apply below_alloc | apply pw_below_drewN | apply below_drew1) | exact HB.out)) hb); clear HB; have HB := n0_; clear n0_; (try clear hb); (try clear hb2); (try clear hk); (try clear hi)) | ((with_reducible refine gate_callee (f := 18) rfl ?_); refine goesL_ (some 29) rfl rfl Tryd.func18 (by kernel_rfl) rfl #[.string a0] rfl (by (try simp only [List.map_toArray, List.map_cons, List.map_nil]); first | done | rfl | (simp only [List.length_drop, List.length_take]; rfl)) ?_; (with_reducible refine (spec_Small.calls a0 t183 _ A9.out).mono ?_); rintro e w26 ⟨rfl, hb⟩; refine ⟨_, rfl, ?_⟩; have n0_ := Aside0.mk (below_step (by repeat (first | (with_reducible first | exact HB.out | apply below_alloc | apply pw_below_drewN | apply below_drew1) | exact HB.out)) hb); clear HB; have HB := n0_; clear n0_; (try clear hb); (try clear hb2); (try clear hk); (try clear hi)) | ((with_reducible refine gate_callee (f := 18) rfl ?_); refine goesL_ (some 31) rfl rfl Tryd.func18 (by kernel_rfl) rfl #[.string a1] rfl (by (try simp only [List.map_toArray, List.map_cons, List.map_nil]); first | done | rfl | (simp only [List.length_drop, List.length_take]; rfl)) ?_; (with_reducible refine (spec_Small.calls a1 t184 _ A10.out).mono ?_); rintro e w27 ⟨rfl, hb⟩; refine ⟨_, rfl, ?_⟩; have n0_ := Aside0.mk (below_step (by repeat (first | (with_reducible first | exact HB.out | apply below_alloc | apply pw_below_drewN | apply below_drew1) | exact HB.out)) hb); clear HB; have HB := n0_; clear n0_; (try clear hb); (try clear hb2); (try clear hk); (try clear hi)) | ((with_reducible refine gate_callee (f := 17) rfl ?_); refine goesL_ (some 32) rfl rfl Tryd.func17 (by kernel_rfl) rfl #[.string t183, .string t184] rfl (by (try simp only [List.map_toArray, List.map_cons, List.map_nil]); first | done | rfl | (simp only [List.length_drop, List.length_take]; rfl)) ?_; (with_reducible refine (impl_MtMatch.calls kj2 t183 t184 t185 _ A11.out (HG.out.below (by repeat (first | (with_reducible first | exact HB.out | apply below_alloc | apply pw_below_drewN | apply below_drew1) | exact HB.out)))).mono ?_); rintro e w28 ⟨rfl, hb⟩; refine ⟨_, rfl, ?_⟩; have n0_ := Aside0.mk (below_step (by repeat (first | (with_reducible first | exact HB.out | apply below_alloc | apply pw_below_drewN | apply below_drew1) | exact HB.out)) hb); clear HB; have HB := n0_; clear n0_; (try clear hb); (try clear hb2); (try clear hk); (try clear hi)))
      go_ret
      exact ⟨by first | rfl | (simp [errX_none, errX_some] <;> rfl) | (simp [*, errX_none, errX_some] <;> rfl), by repeat (first | (with_reducible first | exact HB.out | apply below_alloc | apply pw_below_drewN | apply below_drew1) | exact HB.out)⟩
    ·
     replace c7 := Bool.eq_false_iff.mpr c7
     subst c7
     have H1 : (some true) = some r := by rw [if_neg (show ¬ (false = true) by decide)] at H; exact H
     clear H
     have H := H1
     clear H1
     obtain rfl := Option.some.inj H
     go_wp2_with (first | ((with_reducible refine gate_callee (f := 14) rfl ?_); refine goesL_ (some 19) rfl rfl Tryd.func14 (by kernel_rfl) rfl #[.string a0, .string a1] rfl (by (try simp only [List.map_toArray, List.map_cons, List.map_nil]); first | done | rfl | (simp only [List.length_drop, List.length_take]; rfl)) ?_; (with_reducible refine (laws_mtTold.calls kj2 a0 a1 t180 false _ A6.out).mono ?_); rintro e w29 ⟨rfl, hb⟩; refine ⟨_, rfl, ?_⟩; have n0_ := Aside0.mk (below_step (by repeat (first | (with_reducible first | exact HB.out | apply below_alloc | apply pw_below_drewN | apply below_drew1) | exact HB.out)) hb); clear HB; have HB := n0_; clear n0_; (try clear hb); (try clear hb2); (try clear hk); (try clear hi)))
     go_ret
     exact ⟨by first | rfl | (simp [errX_none, errX_some] <;> rfl) | (simp [*, errX_none, errX_some] <;> rfl), by repeat (first | (with_reducible first | exact HB.out | apply below_alloc | apply pw_below_drewN | apply below_drew1) | exact HB.out)⟩

/-- THE ONE PURE STATEMENT of laws_FnMtNoCaseSmall: yours. -/
def laws_FnMtNoCaseSmall.Pure : Prop := ∀ (a0 : ByteArray) (a1 : ByteArray), a0.size ≤ 140737488351232 → a1.size ≤ 140737488351232 → ∃ k, laws_FnMtNoCaseSmall.f k a0 a1 = some true
theorem laws_FnMtNoCaseSmall.walk (P : laws_FnMtNoCaseSmall.Pure) (a0 : ByteArray) (a1 : ByteArray) (w : World) (w0 : a0.size ≤ 140737488351232) (w1 : a1.size ≤ 140737488351232) (hG : Glob w) :
    Calls Tryd.prog 7 #[.string a0, .string a1] w fun e w' => e = .returned (.bool true) ∧ Below w.heap.size w w' := by
  obtain ⟨k, h⟩ := P a0 a1 w0 w1
  refine (laws_FnMtNoCaseSmall.calls k a0 a1 true w h hG).mono ?_
  rintro e w' ⟨rfl, hd⟩
  exact ⟨rfl, hd⟩

end Go.Proofs.YtljmeaemonpkoaaDoor.PFnMtNoCaseSmall
