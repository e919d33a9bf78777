/- what the Go functions that the law FnJpGetBool reaches compute, each as a plain function, with the proof that the Go code computes just that; no condition beside those that each theorem states. -/
import Derived.Test.YtobnmfgapaeccaaDoorPFnJpGetBoolx0
import Derived.Test.YtobnmfgapaeccaaDoorPFnJpGetBoolx1
import Derived.Test.YtobnmfgapaeccaaDoorPFnJpGetBoolx12
import Derived.Test.YtobnmfgapaeccaaDoorGXFnJpGetBool
import Derived.Test.YtobnmfgapaeccaaDoorHGBFnJpGetBool
import Derived.Test.YtobnmfgapaeccaaDoorWordsFnJpGetBool
namespace Go.Proofs.YtobnmfgapaeccaaDoor.PFnJpGetBool
open Go.RowKit Go.Proofs.YtobnmfgapaeccaaDoorW.PrintWords Go.Proofs.YtobnmfgapaeccaaDoorW.PrintLast Go.Proofs.YtobnmfgapaeccaaDoorW.PrintMore
set_option linter.unusedVariables false
set_option linter.unusedSimpArgs false
noncomputable def laws_FnJpGetBool.j0 : Nat → ByteArray → List ByteArray → Bool → Option (Bool)
  | 0, _, _, _ => none
  | k + 1, x0, x1, x16 => if x16 = true then (some true) else ((jF_.f k x0 x1).bind fun bt463 => (if bt463.2.2.2.2.2 = true then ((impl_JpGetBool.f x0 x1).bind fun bt474 => (if bt463.1 = 2 then (if (bt474.2 == true) = true then (if bt474.2 = true then (some (bt474.1 == (bt463.1 == 2))) else (some true)) else (some false)) else (if (bt474.2 == (bt463.1 == 1)) = true then (if bt474.2 = true then (some (bt474.1 == (bt463.1 == 2))) else (some true)) else (some false)))) else (some true)))
noncomputable def laws_FnJpGetBool.f (k : Nat) (a0 : ByteArray) (l1 : List ByteArray) : Option (Bool) := if (a0.size : Int) > 2147483647 then (laws_FnJpGetBool.j0 k a0 l1 true) else ((zF_.f k l1).bind fun t462 => (laws_FnJpGetBool.j0 k a0 l1 (!t462)))
set_option maxHeartbeats 8000000 in
set_option maxRecDepth 100000 in
theorem laws_FnJpGetBool.calls (k : Nat) (a0 : ByteArray) (A1 : Option Addr) (c1 : Nat) (l1 : List ByteArray) (r : Bool) (w : World) (hr1 : Kd.C Kd.string w A1 l1.length l1) (hc1 : l1.length ≤ c1) (h : laws_FnJpGetBool.f k a0 l1 = some r) (hG : Glob w) :
    Calls Tryd.prog 3 #[.string a0, .slice A1 l1.length c1] w fun e w' => e = .returned (.bool r) ∧ Below w.heap.size w w' := by
 have hu27 := Tryd.underlying27
 have HR1 := Aside0.mk hr1
 have HC1 := Aside0.mk hc1
 clear hr1 hc1
 have HB := Aside0.mk (Below.refl w.heap.size w)
 have HG := Aside0.mk hG
 clear hG
 have H : (if (a0.size : Int) > 2147483647 then (laws_FnJpGetBool.j0 k a0 l1 true) else ((zF_.f k l1).bind fun t462 => (laws_FnJpGetBool.j0 k a0 l1 (!t462)))) = some r := h
 clear h
 have HC3 := Aside0.mk H
 clear H
 go_enter Tryd.func3, Tryd.ntmps3
 go_upto_region 1 with (fail)
 go_cut [16] (fun v16 wc => ∃ (kq : Nat) (x16_2 : Bool), v16 = .bool x16_2 ∧ Aside0 (laws_FnJpGetBool.j0 kq a0 l1 x16_2 = some r) ∧ Aside0 (kq ≤ k) ∧ Aside0 (Below w.heap.size w wc))
 case first =>
  have H := HC3.out
  clear HC3
  by_cases c4 : (a0.size : Int) > 2147483647
  ·
   rw [if_pos c4] at H
   have c4b0 := decide_eq_true c4
   have c4b1 : decide (2147483647 < a0.size) = true := decide_eq_true (by omega)
   clear c4
   (first | rw [c4b0] | (simp only [i64_w, i32_w]; rw [c4b0]) | rw [c4b1] | skip)
   have H' := Aside0.mk H
   clear H
   go_wp2
   go_meet
   case rel => exact ⟨_, (true), zE, H', ⟨by first | omega | exact Nat.le_refl _⟩, ⟨zB HB.out⟩⟩
  rw [if_neg c4] at H
  have c4b0 := decide_eq_false c4
  have c4b1 : decide (2147483647 < a0.size) = false := decide_eq_false (by omega)
  clear c4
  (first | rw [c4b0] | (simp only [i64_w, i32_w]; rw [c4b0]) | rw [c4b1] | skip)
  replace H := Option.bind_eq_some_iff.mp H
  obtain ⟨t462, A50, H⟩ := H
  try dsimp only at H
  have A5 := Aside0.mk A50
  clear A50
  have H' := Aside0.mk H
  clear H
  go_wp2_with (first | (go_at_call 4; (with_reducible refine (zF_.calls k _ _ l1 t462 _ ?side1 ?side2 A5.out).mono ?_); (case side1 => exact zkc (Kd.C_below HR1.out HB.out)); (case side2 => exact HC1.out); rintro e w' ⟨rfl, ⟨nd, rfl⟩⟩))
  go_meet
  case rel => exact ⟨_, (!t462), zE, H', ⟨by first | omega | exact Nat.le_refl _⟩, ⟨zB HB.out⟩⟩
 clear HC3
 (try clear c1)
 obtain ⟨kq, x16_2, rfl, HA, HJ2, HB⟩ := hcut
 rcases kq with _ | kj2
 · exact absurd HA.out (by simp [laws_FnJpGetBool.j0])
 have H := HA.out
 clear HA
 simp only [laws_FnJpGetBool.j0] at H
 by_cases c6 : x16_2 = true
 ·
  subst c6
  rw [if_pos rfl] at H
  obtain rfl := Option.some.inj H
  go_wp2
  go_ret
  exact ⟨zX, zB HB.out⟩
 replace c6 := Bool.eq_false_iff.mpr c6
 subst c6
 rw [if_neg Bool.false_ne_true] at H
 replace H := Option.bind_eq_some_iff.mp H
 obtain ⟨⟨t463, t464, t465, t466, t469, t472⟩, A70, H⟩ := H
 try dsimp only at H
 have A7 := Aside0.mk A70
 clear A70
 by_cases c8 : t472 = true
 ·
  subst c8
  rw [if_pos rfl] at H
  replace H := Option.bind_eq_some_iff.mp H
  obtain ⟨⟨t474, t475⟩, A90, H⟩ := H
  try dsimp only at H
  have A9 := Aside0.mk A90
  clear A90
  by_cases c10 : t463 = 2
  rw [if_pos c10] at H
  have c10b0 := beq_iff_eq.mpr c10
  have c10b1 := bne_eq_false_iff_eq.mpr c10
  clear c10
  by_cases c11 : (t475 == true) = true
  rw [if_pos c11] at H
  have c11b0 : (t475 == true) = true := c11
  (try (have c11b1 : decide (t475 = true) = true := by simpa using c11))
  (try (have c11b2 : (t475 == true) = true := by simpa using c11))
  clear c11
  by_cases c12 : t475 = true
  subst c12
  rw [if_pos rfl] at H
  obtain rfl := Option.some.inj H
  rotate_left
  replace c12 := Bool.eq_false_iff.mpr c12
  subst c12
  rw [if_neg Bool.false_ne_true] at H
  obtain rfl := Option.some.inj H
  rotate_left
  rw [if_neg c11] at H
  have c11b0 : (t475 == true) = false := by simpa using c11
  (try (have c11b1 : decide (t475 = true) = false := by simpa using c11))
  (try (have c11b2 : (t475 == true) = false := by simpa using c11))
  (try (have c11b3 : ¬ (t475 = true) := by simpa using c11))
  clear c11
  obtain rfl := Option.some.inj H
  rotate_left
  rw [if_neg c10] at H
  have c10b0 := beq_eq_false_iff_ne.mpr c10
  have c10b1 := bne_iff_ne.mpr c10
  by_cases c34 : (t475 == (t463 == 1)) = true
  rw [if_pos c34] at H
  have c34b0 : (t475 == (t463 == 1)) = true := c34
  (try (have c34b1 : decide (t475 = (t463 == 1)) = true := by simpa using c34))
  (try (have c34b2 : (t475 == (t463 == 1)) = true := by simpa using c34))
  clear c34
  by_cases c35 : t475 = true
  subst c35
  rw [if_pos rfl] at H
  obtain rfl := Option.some.inj H
  rotate_left
  replace c35 := Bool.eq_false_iff.mpr c35
  subst c35
  rw [if_neg Bool.false_ne_true] at H
  obtain rfl := Option.some.inj H
  rotate_left
  rw [if_neg c34] at H
  have c34b0 : (t475 == (t463 == 1)) = false := by simpa using c34
  (try (have c34b1 : decide (t475 = (t463 == 1)) = false := by simpa using c34))
  (try (have c34b2 : (t475 == (t463 == 1)) = false := by simpa using c34))
  (try (have c34b3 : ¬ (t475 = (t463 == 1)) := by simpa using c34))
  clear c34
  obtain rfl := Option.some.inj H
  rotate_left
  all_goals go_wp2_with (first | ((with_reducible refine gate_callee (f := 5) rfl ?_); refine goesL_ (some 20) rfl rfl Tryd.func5 (by kernel_rfl) rfl #[.string a0, .slice A1 l1.length c1] rfl zM ?_; (with_reducible refine (jF_.calls kj2 a0 _ _ l1 t463 t464 t465 t466 t469 true _ ?side1 ?side2 A7.out).mono ?_); (case side1 => exact zkc (Kd.C_below HR1.out HB.out)); (case side2 => exact HC1.out); rintro e w13 ⟨v467, v470, rfl, ho0, ho1, hb⟩; refine ⟨_, rfl, ?_⟩; have HO468 := Aside0.mk (Kd.V_lower (Kd.V_mono (ok' := fun k_ => True) ho0 (fun k_ hk_ => trivial)) (below_size (zB HB.out))); have HO471 := Aside0.mk (Kd.V_lower (Kd.V_mono (ok' := fun k_ => True) ho1 (fun k_ hk_ => trivial)) (below_size (zB HB.out))); replace HB := zbs HB hb; clear hb; (try clear ho0); (try clear ho1)) | ((with_reducible refine gate_dst (N := 5) rfl ?_); refine zbo (N := 5) (cs := #[.int .i64 0, .int .i64 0, .int .i64 0, .slice none 0 0, .slice none 0 0]) (t := 27) ?_; intro gb473 hg w14 hbox hb; replace HO468 := zve HO468 hg hb; replace HO471 := zve HO471 hg hb; have BK473 := Aside0.mk (hbox); have GW473 := zgw hg HB; have GE473 := zgw hg HB; replace HB := zbs HB hb; clear hb hbox hg; have hz15 := zc5 BK473.out; obtain ⟨Ao16, co16, eo16⟩ := Kd.V_slice HO468.out; subst eo16; obtain ⟨Ao17, co17, eo17⟩ := Kd.V_slice HO471.out; subst eo17) | ((with_reducible refine gate_callee (f := 6) rfl ?_); refine goesL_ (some 28) rfl rfl Tryd.func6 (by kernel_rfl) rfl #[.string a0, .slice A1 l1.length c1] rfl zM ?_; (with_reducible refine (impl_JpGetBool.calls a0 _ _ l1 t474 true _ ?side1 ?side2 A9.out (HG.out.below (zB HB.out))).mono ?_); (case side1 => exact Kd.C_below HR1.out (zB HB.out)); (case side2 => exact HC1.out); rintro e w18 ⟨rfl, hb⟩; refine ⟨_, rfl, ?_⟩; replace HO468 := Aside0.mk (Kd.V_below (zV ((Kd.V_mono (zFV (Kd.V_mono HO468.out (fun k_ hk => (⟨hk, hk.2⟩ : _ ∧ k_ ≠ gb473)))) (fun _ h_ => h_.1)))) hb); replace HO471 := Aside0.mk (Kd.V_below (zV ((Kd.V_mono (zFV (Kd.V_mono HO471.out (fun k_ hk => (⟨hk, hk.2⟩ : _ ∧ k_ ≠ gb473)))) (fun _ h_ => h_.1)))) hb); replace BK473 := Aside0.mk (blk_below (g := gb473) (o := .cells #[.int .i64 t463, .int .i64 t464, .int .i64 t465, .slice Ao16 t466.length co16, .slice Ao17 t469.length co17] 27 (0, 0)) (zbp BK473) hb); replace HB := zbs HB hb; clear hb; have hz19 := zc5 BK473.out) | ((with_reducible refine gate_callee (f := 6) rfl ?_); refine goesL_ (some 28) rfl rfl Tryd.func6 (by kernel_rfl) rfl #[.string a0, .slice A1 l1.length c1] rfl zM ?_; (with_reducible refine (impl_JpGetBool.calls a0 _ _ l1 t474 false _ ?side1 ?side2 A9.out (HG.out.below (zB HB.out))).mono ?_); (case side1 => exact Kd.C_below HR1.out (zB HB.out)); (case side2 => exact HC1.out); rintro e w25 ⟨rfl, hb⟩; refine ⟨_, rfl, ?_⟩; replace HO468 := Aside0.mk (Kd.V_below (zV ((Kd.V_mono (zFV (Kd.V_mono HO468.out (fun k_ hk => (⟨hk, hk.2⟩ : _ ∧ k_ ≠ gb473)))) (fun _ h_ => h_.1)))) hb); replace HO471 := Aside0.mk (Kd.V_below (zV ((Kd.V_mono (zFV (Kd.V_mono HO471.out (fun k_ hk => (⟨hk, hk.2⟩ : _ ∧ k_ ≠ gb473)))) (fun _ h_ => h_.1)))) hb); replace BK473 := Aside0.mk (blk_below (g := gb473) (o := .cells #[.int .i64 t463, .int .i64 t464, .int .i64 t465, .slice Ao16 t466.length co16, .slice Ao17 t469.length co17] 27 (0, 0)) (zbp BK473) hb); replace HB := zbs HB hb; clear hb; have hz26 := zc5 BK473.out) | ((with_reducible refine gate_callee (f := 6) rfl ?_); refine goesL_ (some 28) rfl rfl Tryd.func6 (by kernel_rfl) rfl #[.string a0, .slice A1 l1.length c1] rfl zM ?_; (with_reducible refine (impl_JpGetBool.calls a0 _ _ l1 t474 t475 _ ?side1 ?side2 A9.out (HG.out.below (zB HB.out))).mono ?_); (case side1 => exact Kd.C_below HR1.out (zB HB.out)); (case side2 => exact HC1.out); rintro e w32 ⟨rfl, hb⟩; refine ⟨_, rfl, ?_⟩; replace HO468 := Aside0.mk (Kd.V_below (zV ((Kd.V_mono (zFV (Kd.V_mono HO468.out (fun k_ hk => (⟨hk, hk.2⟩ : _ ∧ k_ ≠ gb473)))) (fun _ h_ => h_.1)))) hb); replace HO471 := Aside0.mk (Kd.V_below (zV ((Kd.V_mono (zFV (Kd.V_mono HO471.out (fun k_ hk => (⟨hk, hk.2⟩ : _ ∧ k_ ≠ gb473)))) (fun _ h_ => h_.1)))) hb); replace BK473 := Aside0.mk (blk_below (g := gb473) (o := .cells #[.int .i64 t463, .int .i64 t464, .int .i64 t465, .slice Ao16 t466.length co16, .slice Ao17 t469.length co17] 27 (0, 0)) (zbp BK473) hb); replace HB := zbs HB hb; clear hb; have hz33 := zc5 BK473.out))
  ·
   go_ret
   exact ⟨zX, zB HB.out⟩
  ·
   go_ret
   exact ⟨zX, zB HB.out⟩
  ·
   go_ret
   exact ⟨zX, zB HB.out⟩
  ·
   go_ret
   exact ⟨zX, zB HB.out⟩
  ·
   go_ret
   exact ⟨zX, zB HB.out⟩
  ·
   go_ret
   exact ⟨zX, zB HB.out⟩
 replace c8 := Bool.eq_false_iff.mpr c8
 subst c8
 rw [if_neg Bool.false_ne_true] at H
 obtain rfl := Option.some.inj H
 go_wp2_with (first | ((with_reducible refine gate_callee (f := 5) rfl ?_); refine goesL_ (some 20) rfl rfl Tryd.func5 (by kernel_rfl) rfl #[.string a0, .slice A1 l1.length c1] rfl zM ?_; (with_reducible refine (jF_.calls kj2 a0 _ _ l1 t463 t464 t465 t466 t469 false _ ?side1 ?side2 A7.out).mono ?_); (case side1 => exact zkc (Kd.C_below HR1.out HB.out)); (case side2 => exact HC1.out); rintro e w57 ⟨v467, v470, rfl, ho0, ho1, hb⟩; refine ⟨_, rfl, ?_⟩; have HO468 := Aside0.mk (Kd.V_lower (Kd.V_mono (ok' := fun k_ => True) ho0 (fun k_ hk_ => trivial)) (below_size (zB HB.out))); have HO471 := Aside0.mk (Kd.V_lower (Kd.V_mono (ok' := fun k_ => True) ho1 (fun k_ hk_ => trivial)) (below_size (zB HB.out))); replace HB := zbs HB hb; clear hb; (try clear ho0); (try clear ho1)) | ((with_reducible refine gate_dst (N := 5) rfl ?_); refine zbo (N := 5) (cs := #[.int .i64 0, .int .i64 0, .int .i64 0, .slice none 0 0, .slice none 0 0]) (t := 27) ?_; intro gb473 hg w58 hbox hb; replace HO468 := zve HO468 hg hb; replace HO471 := zve HO471 hg hb; have BK473 := Aside0.mk (hbox); have GW473 := zgw hg HB; have GE473 := zgw hg HB; replace HB := zbs HB hb; clear hb hbox hg; have hz59 := zc5 BK473.out; obtain ⟨Ao60, co60, eo60⟩ := Kd.V_slice HO468.out; subst eo60; obtain ⟨Ao61, co61, eo61⟩ := Kd.V_slice HO471.out; subst eo61))
 go_ret
 exact ⟨zX, zB HB.out⟩
/-- THE ONE PURE STATEMENT of laws_FnJpGetBool: yours. -/
noncomputable def laws_FnJpGetBool.Pure : Prop := ∀ (a0 : ByteArray) (l1 : List ByteArray), a0.size ≤ 140737488351232 → l1.length ≤ maxLen → (∀ x ∈ l1, x.size ≤ maxLen) → ∃ k, laws_FnJpGetBool.f k a0 l1 = some true
theorem laws_FnJpGetBool.walk (P : laws_FnJpGetBool.Pure) (a0 : ByteArray) (a1 : Option Addr) (len1 cap1 : Nat) (z1 : List ByteArray) (w : World) (w0 : a0.size ≤ 140737488351232) (w1 : (a1 = none ∧ len1 = 0 ∧ cap1 = 0 ∧ z1 = []) ∨ ∃ x, a1 = some x ∧ len1 ≤ cap1 ∧ cap1 ≤ maxLen ∧ z1.length = cap1 ∧ (∀ i, i < z1.length → w.cell? (x.add i) = some (.string (z1.getD i ByteArray.empty))) ∧ ∀ s ∈ z1, s.size ≤ maxLen) (hG : Glob w) :
    Calls Tryd.prog 3 #[.string a0, .slice a1 len1 cap1] w fun e w' => e = .returned (.bool true) ∧ Below w.heap.size w w' := by
  obtain ⟨l1, rfl, hr1, hm1, hw1, hc1⟩ := strs_row w1
  obtain ⟨k, h⟩ := P a0 l1 w0 hm1 hw1
  refine (laws_FnJpGetBool.calls k a0 _ _ l1 true w hr1 hc1 h hG).mono ?_
  rintro e w' ⟨rfl, hd⟩
  exact ⟨rfl, hd⟩
end Go.Proofs.YtobnmfgapaeccaaDoor.PFnJpGetBool