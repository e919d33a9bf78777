-- Written by a program of this session (wip/prx) out of the print of the loaded functions.
import Derived.Test.YtljmeaemonpkoaaDoorPFnSjStringJoinx0
import Derived.Test.YtljmeaemonpkoaaDoorPFnSjStringJoinx2
import Derived.Test.YtljmeaemonpkoaaDoorPFnSjStringJoinx3
import Derived.Test.YtljmeaemonpkoaaDoorGUFnSjStringJoin
import Derived.Test.YtljmeaemonpkoaaDoorWSFnSjStringJoin
namespace Go.Proofs.YtljmeaemonpkoaaDoor.PFnSjStringJoin
open Go.RowKit Go.Proofs.YtljmeaemonpkoaaDoorW.PrintWords Go.Proofs.YtljmeaemonpkoaaDoorW.PrintLast Go.Proofs.YtljmeaemonpkoaaDoorW.PrintMore
attribute [local go_sem] max2_int min2_int max_two min_two max_three min_three max_four min_four   -- for this text's walks alone
set_option linter.unusedVariables false
set_option linter.unusedSimpArgs false

/-! ### sjson_appendStringify: function 33 -/
def sjson_appendStringify.f (k : Nat) (l0 : List Int) (a1 : ByteArray) : Option (List Int) := (sjson_mustMarshalString.f k a1).bind fun t195 => (if t195 = true then ((sjson_zzMarshal.f k l0 a1).bind fun t196 => (some t196)) else (if l0.length < 140737488355328 then ((some (l0 ++ [34] : List Int)).bind fun y199 => (if y199.length + a1.size < 140737488355328 then ((some (y199 ++ bytesOf a1 : List Int)).bind fun y202 => (if y202.length < 140737488355328 then (some (y202 ++ [34])) else (none))) else (none))) else (none)))
theorem sjson_appendStringify.mono : ∀ a0 a1 k, LeO (sjson_appendStringify.f k a0 a1) (sjson_appendStringify.f (k + 1) a0 a1) := by
  intro a0 a1 k
  unfold sjson_appendStringify.f
  repeat' first
      | (with_reducible exact sjson_mustMarshalString.mono _ _)
      | (with_reducible exact sjson_zzMarshal.mono _ _ _)
      | (with_reducible exact LeO.refl _)
      | (with_reducible exact LeO.none _)
      | (with_reducible refine LeO.ite ?_ ?_)
      | (with_reducible refine LeO.bind ?_ (fun _ => ?_))
      | exact sjson_mustMarshalString.mono _ _
      | exact sjson_zzMarshal.mono _ _ _
      | exact LeO.none _
      | refine LeO.ite ?_ ?_
      | refine LeO.bind ?_ (fun _ => ?_)
set_option maxHeartbeats 8000000 in
set_option maxRecDepth 100000 in
theorem sjson_appendStringify.calls (k : Nat) (P0_ : Nat → Prop) (u9000_ : Value) (l0 : List Int) (a1 : ByteArray) (r : List Int) (w0 w : World) (hB : Below w0.heap.size w0 w) (ho0 : Kd.R (Kd.int .u8) 5 w w0.heap.size P0_ u9000_ l0) (h : sjson_appendStringify.f k l0 a1 = some r) (hG : Glob w0) :
    Calls Tryd.prog 33 #[u9000_, .string a1] w fun e w' => ∃ v0_ : Value, e = .returned (v0_) ∧ Kd.R (Kd.int .u8) 5 w' w0.heap.size (fun k_ => (P0_ k_ ∨ w.heap.size ≤ k_)) v0_ r ∧ Below w0.heap.size w0 w' ∧ Kept w w' (fun k_ => P0_ k_) := by
 have HO0 := Aside0.mk (show Kd.R (Kd.int .u8) 5 w w0.heap.size (fun k_ => (P0_ k_ ∨ w.heap.size ≤ k_)) u9000_ l0 from Kd.R_mono ho0 (fun k_ hk => (.inl hk)))
 have HK := Aside0.mk (Kept.refl w (fun k_ => P0_ k_))
 have HW0 := Aside0.mk hB.size
 have HB := Aside0.mk hB
 clear hB
 have HG := Aside0.mk hG
 clear hG
 have H : ((sjson_mustMarshalString.f k a1).bind fun t195 => (if t195 = true then ((sjson_zzMarshal.f k l0 a1).bind fun t196 => (some t196)) else (if l0.length < 140737488355328 then ((some (l0 ++ [34] : List Int)).bind fun y199 => (if y199.length + a1.size < 140737488355328 then ((some (y199 ++ bytesOf a1 : List Int)).bind fun y202 => (if y202.length < 140737488355328 then (some (y202 ++ [34])) else (none))) else (none))) else (none)))) = some r := h
 clear h
 replace H := Option.bind_eq_some_iff.mp H
 obtain ⟨t195, A30, H⟩ := H
 replace H : (if t195 = true then ((sjson_zzMarshal.f k l0 a1).bind fun t196 => (some t196)) else (if l0.length < 140737488355328 then ((some (l0 ++ [34] : List Int)).bind fun y199 => (if y199.length + a1.size < 140737488355328 then ((some (y199 ++ bytesOf a1 : List Int)).bind fun y202 => (if y202.length < 140737488355328 then (some (y202 ++ [34])) else (none))) else (none))) else (none))) = some r := H
 have A3 := Aside0.mk A30
 clear A30
 by_cases c4 : t195 = true
 ·
  subst c4
  have H1 : ((sjson_zzMarshal.f k l0 a1).bind fun t196 => (some t196)) = some r := by rw [if_pos rfl] at H; exact H
  clear H
  have H := H1
  clear H1
  replace H := Option.bind_eq_some_iff.mp H
  obtain ⟨t196, A50, H⟩ := H
  replace H : (some t196) = some r := H
  have A5 := Aside0.mk A50
  clear A50
  obtain rfl := Option.some.inj H
  go_enter Tryd.func33, Tryd.ntmps33
  go_wp2_with (first | ((with_reducible refine gate_callee (f := 42) rfl ?_); refine goesL_ (some 6) rfl rfl Tryd.func42 (by kernel_rfl) rfl #[.string a1] rfl (by (try simp only [List.map_toArray, List.map_cons, List.map_nil]); first | done | rfl | (simp only [List.length_drop, List.length_take]; rfl)) ?_; (with_reducible refine (sjson_mustMarshalString.calls k a1 true _ A3.out).mono ?_); rintro e w' ⟨rfl, ⟨nd, rfl⟩⟩; refine ⟨_, rfl, ?_⟩; obtain ⟨Ao6, co6, eo6⟩ := Kd.R_slice HO0.out; subst eo6) | ((with_reducible refine gate_callee (f := 43) rfl ?_); refine goesL_ (some 9) rfl rfl Tryd.func43 (by kernel_rfl) rfl #[.slice Ao6 l0.length co6, .string a1] rfl (by (try simp only [List.map_toArray, List.map_cons, List.map_nil]); first | done | rfl | (simp only [List.length_drop, List.length_take]; rfl)) ?_; (with_reducible refine (sjson_zzMarshal.calls k (fun k_ => some k_ = (.slice Ao6 l0.length co6 : Value).ownBlock) (.slice Ao6 l0.length co6) l0 a1 t196 w0 _ ?side1 ?side2 A5.out HG.out).mono ?_); (case side1 => repeat (first | (with_reducible first | exact HB.out | apply below_alloc | apply pw_below_drewN | apply below_drew1) | exact HB.out)); (case side2 => exact Kd.R_tight rfl HO0.out); rintro e w7 ⟨v197, rfl, ho0, hb, hkp⟩; refine ⟨_, rfl, ?_⟩; have n0_ := Aside0.mk (Kd.R_mono (ok' := fun k_ => (P0_ k_ ∨ w.heap.size ≤ k_)) ho0 (fun k_ hk_ => Or.elim hk_ (fun hs_ => (HO0.out.1 k_ (hs_).symm)) (fun hn_ => (.inr (Nat.le_trans (by first | exact HK.out.1 | exact (show Kept w _ (fun k_ => P0_ k_) from by repeat (first | (with_reducible first | exact HK.out | apply Kept.alloc | apply Kept.drewN | apply Kept.drew) | exact HK.out)).1) hn_))))); have n1_ := Aside0.mk (Kept.then_ (S := (fun k_ => P0_ k_)) (by repeat (first | (with_reducible first | exact HK.out | apply Kept.alloc | apply Kept.drewN | apply Kept.drew) | exact HK.out)) hkp (fun k_ hs_ => (fun e_ => (HO0.out.1 k_ e_.symm)) hs_)); have n2_ := Aside0.mk (hb); clear HK; clear HB; clear HO0; have HO198 := n0_; have HK := n1_; have HB := n2_; clear n0_ n1_ n2_; (try clear hb); (try clear hkp); (try clear ho0)))
  go_ret
  exact ⟨_, by first | rfl | (simp [errW_none, errW_some] <;> rfl) | (simp [*, errW_none, errW_some] <;> rfl), by (with_reducible repeat (first | apply Kd.R_alloc | apply Kd.R_drewN | apply Kd.R_drew)); exact HO198.out, by repeat (first | (with_reducible first | exact HB.out | apply below_alloc | apply pw_below_drewN | apply below_drew1) | exact HB.out), by repeat (first | (with_reducible first | exact HK.out | apply Kept.alloc | apply Kept.drewN | apply Kept.drew) | exact HK.out)⟩
 ·
  replace c4 := Bool.eq_false_iff.mpr c4
  subst c4
  have H1 : (if l0.length < 140737488355328 then ((some (l0 ++ [34] : List Int)).bind fun y199 => (if y199.length + a1.size < 140737488355328 then ((some (y199 ++ bytesOf a1 : List Int)).bind fun y202 => (if y202.length < 140737488355328 then (some (y202 ++ [34])) else (none))) else (none))) else (none)) = some r := by rw [if_neg (show ¬ (false = true) by decide)] at H; exact H
  clear H
  have H := H1
  clear H1
  by_cases c8 : l0.length < 140737488355328
  ·
   rw [if_pos c8] at H
   have LMc8 := Aside0.mk c8
   clear c8
   obtain ⟨y199, hy199⟩ : ∃ y_ : List Int, y_ = (l0 ++ [34]) := ⟨_, rfl⟩
   replace H : (if y199.length + a1.size < 140737488355328 then ((some (y199 ++ bytesOf a1 : List Int)).bind fun y202 => (if y202.length < 140737488355328 then (some (y202 ++ [34])) else (none))) else (none)) = some r := by first | (rw [hy199]; with_reducible exact H) | (have H2_ := (Option.bind_some _ _).symm.trans H; rw [hy199]; with_reducible exact H2_) | (have H2_ := (Option.bind_some _ _).symm.trans H; with_reducible exact H2_) | with_reducible exact H | (rw [hy199]; exact H) | exact H
   have Ny199 := Aside0.mk hy199
   clear hy199
   by_cases c9 : y199.length + a1.size < 140737488355328
   ·
    rw [if_pos c9] at H
    have LMc9 := Aside0.mk c9
    clear c9
    obtain ⟨y202, hy202⟩ : ∃ y_ : List Int, y_ = (y199 ++ bytesOf a1) := ⟨_, rfl⟩
    replace H : (if y202.length < 140737488355328 then (some (y202 ++ [34])) else (none)) = some r := by first | (rw [hy202]; with_reducible exact H) | (have H2_ := (Option.bind_some _ _).symm.trans H; rw [hy202]; with_reducible exact H2_) | (have H2_ := (Option.bind_some _ _).symm.trans H; with_reducible exact H2_) | with_reducible exact H | (rw [hy202]; exact H) | exact H
    have Ny202 := Aside0.mk hy202
    clear hy202
    by_cases c10 : y202.length < 140737488355328
    ·
     rw [if_pos c10] at H
     have LMc10 := Aside0.mk c10
     clear c10
     obtain ⟨y205, hy205⟩ : ∃ y_ : List Int, y_ = (y202 ++ [34]) := ⟨_, rfl⟩
     replace H : (some y205) = some r := by first | (rw [hy205]; with_reducible exact H) | (have H2_ := (Option.bind_some _ _).symm.trans H; rw [hy205]; with_reducible exact H2_) | (have H2_ := (Option.bind_some _ _).symm.trans H; with_reducible exact H2_) | with_reducible exact H | (rw [hy205]; exact H) | exact H
     have Ny205 := Aside0.mk hy205
     clear hy205
     obtain rfl := Option.some.inj H
     go_enter Tryd.func33, Tryd.ntmps33
     go_wp2_with (first | ((with_reducible refine gate_callee (f := 42) rfl ?_); refine goesL_ (some 6) rfl rfl Tryd.func42 (by kernel_rfl) rfl #[.string a1] rfl (by (try simp only [List.map_toArray, List.map_cons, List.map_nil]); first | done | rfl | (simp only [List.length_drop, List.length_take]; rfl)) ?_; (with_reducible refine (sjson_mustMarshalString.calls k a1 false _ A3.out).mono ?_); rintro e w' ⟨rfl, ⟨nd, rfl⟩⟩; refine ⟨_, rfl, ?_⟩) | ((with_reducible refine gate_builtin (b := .append) (xs := #[.tmp 10, .tmp 11]) rfl ?_); at_builtin; refine Kd.R_append (Kd.int .u8) (w0 := w0) w0.heap.size rfl (.tmp 10) (.tmp 11) 39 5 (.int .u8 0) 1 rfl Tryd.underlying39 info5 rfl (by decide) (by omega) u9000_ l0 34 [.int .u8 34] (fun k_ => (P0_ k_ ∨ w.heap.size ≤ k_)) (fun _ => False) rfl rfl ?aP (fun _ hk => hk.elim) ?aF ?aO ?aB ?aS ?aL ?_; (case aP => exact rfl); (case aB => exact (by repeat (first | (with_reducible first | exact HB.out | apply below_alloc | apply pw_below_drewN | apply below_drew1) | exact HB.out))); (case aF => exact (fun k_ hk => (.inr (Nat.le_trans (by first | exact HK.out.1 | exact (show Kept w _ (fun k_ => P0_ k_) from by repeat (first | (with_reducible first | exact HK.out | apply Kept.alloc | apply Kept.drewN | apply Kept.drew) | exact HK.out)).1) hk)))); (case aO => exact (by (with_reducible repeat (first | apply Kd.R_alloc | apply Kd.R_drewN | apply Kd.R_drew)); exact HO0.out)); (case aS => exact (below_size (by repeat (first | (with_reducible first | exact HB.out | apply below_alloc | apply pw_below_drewN | apply below_drew1) | exact HB.out)))); (case aL => have := LMc8.out; omega); intro v200 w11 ho hb hg hat; rw [← Ny199.out] at ho; have n0_ := Aside0.mk (hb); have n1_ := Aside0.mk (Kept.of_grown (S := (fun k_ => P0_ k_)) hg (by repeat (first | (with_reducible first | exact HK.out | apply Kept.alloc | apply Kept.drewN | apply Kept.drew) | exact HK.out)) (fun k_ e_ => (HO0.out.1 k_ e_))); have n2_ := Aside0.mk (ho); clear HB; clear HK; clear HO0; have HB := n0_; have HK := n1_; have HO201 := n2_; clear n0_ n1_ n2_; clear ho hb hg hat) | (at_builtin; refine print_append_str_R (w0 := w0) w0.heap.size rfl (.tmp 13) _ 39 9 5 rfl Tryd.underlying39 Tryd.underlying9 info5 v200 y199 a1 (fun k_ => (P0_ k_ ∨ w.heap.size ≤ k_)) rfl rfl ?aF ?aO ?aB ?aS ?aL ?_; (case aB => exact (by repeat (first | (with_reducible first | exact HB.out | apply below_alloc | apply pw_below_drewN | apply below_drew1) | exact HB.out))); (case aF => exact (fun k_ hk => (.inr (Nat.le_trans (by first | exact HK.out.1 | exact (show Kept w _ (fun k_ => P0_ k_) from by repeat (first | (with_reducible first | exact HK.out | apply Kept.alloc | apply Kept.drewN | apply Kept.drew) | exact HK.out)).1) hk)))); (case aO => exact (by (with_reducible repeat (first | apply Kd.R_alloc | apply Kd.R_drewN | apply Kd.R_drew)); exact HO201.out)); (case aS => exact (below_size (by repeat (first | (with_reducible first | exact HB.out | apply below_alloc | apply pw_below_drewN | apply below_drew1) | exact HB.out)))); (case aL => have := LMc9.out; (first | omega | (simp only [sz_mk, List.size_toArray, List.length_cons, List.length_nil]; omega))); intro v203 w12 ho hb hg hat; rw [← Ny202.out] at ho; change Kd.R (Kd.int .u8) 5 w12 w0.heap.size (fun k_ => (P0_ k_ ∨ w.heap.size ≤ k_)) v203 y202 at ho; have n0_ := Aside0.mk (hb); have n1_ := Aside0.mk (Kept.of_grown (S := (fun k_ => P0_ k_)) hg (by repeat (first | (with_reducible first | exact HK.out | apply Kept.alloc | apply Kept.drewN | apply Kept.drew) | exact HK.out)) (fun k_ e_ => (HO201.out.1 k_ e_))); have n2_ := Aside0.mk (ho); clear HB; clear HK; clear HO201; have HB := n0_; have HK := n1_; have HO204 := n2_; clear n0_ n1_ n2_; clear ho hb hg hat) | ((with_reducible refine gate_builtin (b := .append) (xs := #[.tmp 16, .tmp 17]) rfl ?_); at_builtin; refine Kd.R_append (Kd.int .u8) (w0 := w0) w0.heap.size rfl (.tmp 16) (.tmp 17) 39 5 (.int .u8 0) 1 rfl Tryd.underlying39 info5 rfl (by decide) (by omega) v203 y202 34 [.int .u8 34] (fun k_ => (P0_ k_ ∨ w.heap.size ≤ k_)) (fun _ => False) rfl rfl ?aP (fun _ hk => hk.elim) ?aF ?aO ?aB ?aS ?aL ?_; (case aP => exact rfl); (case aB => exact (by repeat (first | (with_reducible first | exact HB.out | apply below_alloc | apply pw_below_drewN | apply below_drew1) | exact HB.out))); (case aF => exact (fun k_ hk => (.inr (Nat.le_trans (by first | exact HK.out.1 | exact (show Kept w _ (fun k_ => P0_ k_) from by repeat (first | (with_reducible first | exact HK.out | apply Kept.alloc | apply Kept.drewN | apply Kept.drew) | exact HK.out)).1) hk)))); (case aO => exact (by (with_reducible repeat (first | apply Kd.R_alloc | apply Kd.R_drewN | apply Kd.R_drew)); exact HO204.out)); (case aS => exact (below_size (by repeat (first | (with_reducible first | exact HB.out | apply below_alloc | apply pw_below_drewN | apply below_drew1) | exact HB.out)))); (case aL => have := LMc10.out; omega); intro v206 w13 ho hb hg hat; rw [← Ny205.out] at ho; have n0_ := Aside0.mk (hb); have n1_ := Aside0.mk (Kept.of_grown (S := (fun k_ => P0_ k_)) hg (by repeat (first | (with_reducible first | exact HK.out | apply Kept.alloc | apply Kept.drewN | apply Kept.drew) | exact HK.out)) (fun k_ e_ => (HO204.out.1 k_ e_))); have n2_ := Aside0.mk (ho); clear HB; clear HK; clear HO204; have HB := n0_; have HK := n1_; have HO207 := n2_; clear n0_ n1_ n2_; clear ho hb hg hat))
     go_ret
     exact ⟨_, by first | rfl | (simp [errW_none, errW_some] <;> rfl) | (simp [*, errW_none, errW_some] <;> rfl), by (with_reducible repeat (first | apply Kd.R_alloc | apply Kd.R_drewN | apply Kd.R_drew)); exact HO207.out, by repeat (first | (with_reducible first | exact HB.out | apply below_alloc | apply pw_below_drewN | apply below_drew1) | exact HB.out), by repeat (first | (with_reducible first | exact HK.out | apply Kept.alloc | apply Kept.drewN | apply Kept.drew) | exact HK.out)⟩
    ·
     rw [if_neg c10] at H
     exact absurd H (by simp)
   ·
    rw [if_neg c9] at H
    exact absurd H (by simp)
  ·
   rw [if_neg c8] at H
   exact absurd H (by simp)

/-! ### sjson_DoorString: function 22 -/
def sjson_DoorString.f (k : Nat) (a0 : ByteArray) : Option (ByteArray) := (sjson_appendStringify.f k ([] : List Int) a0).bind fun t208 => (some (strOfNums t208))
theorem sjson_DoorString.mono : ∀ a0 k, LeO (sjson_DoorString.f k a0) (sjson_DoorString.f (k + 1) a0) := by
  intro a0 k
  unfold sjson_DoorString.f
  repeat' first
      | (with_reducible exact sjson_appendStringify.mono _ _ _)
      | (with_reducible exact LeO.refl _)
      | (with_reducible exact LeO.none _)
      | (with_reducible refine LeO.ite ?_ ?_)
      | (with_reducible refine LeO.bind ?_ (fun _ => ?_))
      | exact sjson_appendStringify.mono _ _ _
      | exact LeO.none _
      | refine LeO.ite ?_ ?_
      | refine LeO.bind ?_ (fun _ => ?_)
set_option maxHeartbeats 8000000 in
set_option maxRecDepth 100000 in
theorem sjson_DoorString.calls (k : Nat) (a0 : ByteArray) (r : ByteArray) (w : World) (h : sjson_DoorString.f k a0 = some r) (hG : Glob w) :
    Calls Tryd.prog 22 #[.string a0] w fun e w' => e = .returned (.string r) ∧ Below w.heap.size w w' := by
 have HB := Aside0.mk (Below.refl w.heap.size w)
 have HG := Aside0.mk hG
 clear hG
 have H : ((sjson_appendStringify.f k ([] : List Int) a0).bind fun t208 => (some (strOfNums t208))) = some r := h
 clear h
 replace H := Option.bind_eq_some_iff.mp H
 obtain ⟨t208, A20, H⟩ := H
 replace H : (some (strOfNums t208)) = some r := H
 have A2 := Aside0.mk A20
 clear A20
 obtain rfl := Option.some.inj H
 go_enter Tryd.func22, Tryd.ntmps22
 go_wp2_with (first | ((with_reducible refine gate_callee (f := 33) rfl ?_); refine goesL_ (some 4) rfl rfl Tryd.func33 (by kernel_rfl) rfl #[.slice none 0 0, .string a0] rfl (by (try simp only [List.map_toArray, List.map_cons, List.map_nil]); first | done | rfl | (simp only [List.length_drop, List.length_take]; rfl)) ?_; (refine (sjson_appendStringify.calls k (fun k_ => some k_ = (.slice none 0 0 : Value).ownBlock) (.slice none 0 0) ([] : List Int) a0 t208 w _ ?side1 ?side2 A2.out HG.out).mono ?_); (case side1 => repeat (first | (with_reducible first | exact HB.out | apply below_alloc | apply pw_below_drewN | apply below_drew1) | exact HB.out)); (case side2 => exact Kd.R_nil _ _ _ _ _); rintro e w3 ⟨v209, rfl, ho0, hb, hkp⟩; refine ⟨_, rfl, ?_⟩; have n0_ := Aside0.mk (Kd.R_mono (ok' := fun k_ => True) ho0 (fun k_ hk_ => trivial)); have n1_ := Aside0.mk (hb); clear HB; have HO210 := n0_; have HB := n1_; clear n0_ n1_; (try clear hb); (try clear hkp); (try clear ho0); have hcv4 := own_string (P := Tryd.prog) Tryd.underlying39 Tryd.underlying5 Tryd.underlying9 (Kd.own_of_R HO210.out)))
 go_ret
 exact ⟨by first | rfl | (simp [errW_none, errW_some] <;> rfl) | (simp [*, errW_none, errW_some] <;> rfl), by repeat (first | (with_reducible first | exact HB.out | apply below_alloc | apply pw_below_drewN | apply below_drew1) | exact HB.out)⟩

/-! ### impl_SjString: function 10 -/
def impl_SjString.f (k : Nat) (a0 : ByteArray) : Option (ByteArray) := (sjson_DoorString.f k a0).bind fun t211 => (some t211)
theorem impl_SjString.mono : ∀ a0 k, LeO (impl_SjString.f k a0) (impl_SjString.f (k + 1) a0) := by
  intro a0 k
  unfold impl_SjString.f
  repeat' first
      | (with_reducible exact sjson_DoorString.mono _ _)
      | (with_reducible exact LeO.refl _)
      | (with_reducible exact LeO.none _)
      | (with_reducible refine LeO.ite ?_ ?_)
      | (with_reducible refine LeO.bind ?_ (fun _ => ?_))
      | exact sjson_DoorString.mono _ _
      | exact LeO.none _
      | refine LeO.ite ?_ ?_
      | refine LeO.bind ?_ (fun _ => ?_)
set_option maxHeartbeats 8000000 in
set_option maxRecDepth 100000 in
theorem impl_SjString.calls (k : Nat) (a0 : ByteArray) (r : ByteArray) (w : World) (h : impl_SjString.f k a0 = some r) (hG : Glob w) :
    Calls Tryd.prog 10 #[.string a0] w fun e w' => e = .returned (.string r) ∧ Below w.heap.size w w' := by
 have HB := Aside0.mk (Below.refl w.heap.size w)
 have HG := Aside0.mk hG
 clear hG
 have H : ((sjson_DoorString.f k a0).bind fun t211 => (some t211)) = some r := h
 clear h
 replace H := Option.bind_eq_some_iff.mp H
 obtain ⟨t211, A20, H⟩ := H
 replace H : (some t211) = some r := H
 have A2 := Aside0.mk A20
 clear A20
 obtain rfl := Option.some.inj H
 go_enter Tryd.func10, Tryd.ntmps10
 go_wp2_with (first | ((with_reducible refine gate_callee (f := 22) rfl ?_); refine goesL_ (some 4) rfl rfl Tryd.func22 (by kernel_rfl) rfl #[.string a0] rfl (by (try simp only [List.map_toArray, List.map_cons, List.map_nil]); first | done | rfl | (simp only [List.length_drop, List.length_take]; rfl)) ?_; (with_reducible refine (sjson_DoorString.calls k a0 t211 _ A2.out (HG.out.below (by repeat (first | (with_reducible first | exact HB.out | apply below_alloc | apply pw_below_drewN | apply below_drew1) | exact HB.out)))).mono ?_); rintro e w3 ⟨rfl, hb⟩; refine ⟨_, rfl, ?_⟩; have n0_ := Aside0.mk (below_step (by repeat (first | (with_reducible first | exact HB.out | apply below_alloc | apply pw_below_drewN | apply below_drew1) | exact HB.out)) hb); clear HB; have HB := n0_; clear n0_; (try clear hb); (try clear hb2); (try clear hk); (try clear hi)))
 go_ret
 exact ⟨by first | rfl | (simp [errW_none, errW_some] <;> rfl) | (simp [*, errW_none, errW_some] <;> rfl), by repeat (first | (with_reducible first | exact HB.out | apply below_alloc | apply pw_below_drewN | apply below_drew1) | exact HB.out)⟩

end Go.Proofs.YtljmeaemonpkoaaDoor.PFnSjStringJoin
