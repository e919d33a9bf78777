/- what the Go functions that the law FnJpWildStop reaches compute, each as a plain function, with the proof that the Go code computes just that; no condition beside those that each theorem states. -/
import Derived.Test.YtpdohioobbfncaaGreatDoorPFnJpWildStopx0
import Derived.Test.YtpdohioobbfncaaGreatDoorPFnJpWildStopx8
import Derived.Test.YtpdohioobbfncaaGreatDoorPFnJpWildStopx9
namespace Go.Proofs.YtpdohioobbfncaaGreatDoor.PFnJpWildStop
open Go.RowKit Go.Proofs.YtpdohioobbfncaaGreatDoorW.PrintWords Go.Proofs.YtpdohioobbfncaaGreatDoorW.PrintLast Go.Proofs.YtpdohioobbfncaaGreatDoorW.PrintMore
set_option linter.unusedVariables false
set_option linter.unusedSimpArgs false
def SS_.j0 : Nat → Int → Int → Bool → Int → Int → Int → List (S64) → List (S27) → Option (Int × Int × Int × (List (S64)) × (List (S27)) × Bool)
  | 0, _, _, _, _, _, _, _, _ => none
  | k + 1, x8, x9, x33, x359000, x359001, x359002, x359003, x359004 => if x33 = true then (if x9 < 0 then (some (0, 0, 0, ([] : List (S64)), ([] : List (S27)), false)) else (if 0 ≤ x9 then (if x9 < (x359004.length : Int) then (some ((rd_T27 x359004 x9).f0, (rd_T27 x359004 x9).f1, (rd_T27 x359004 x9).f2, (rd_T27 x359004 x9).f3, (rd_T27 x359004 x9).f4, true)) else (none)) else (none))) else (if x8 < 0 then (some (0, 0, 0, ([] : List (S64)), ([] : List (S27)), false)) else (if 0 ≤ x8 then (if x8 < (x359004.length : Int) then (some ((rd_T27 x359004 x8).f0, (rd_T27 x359004 x8).f1, (rd_T27 x359004 x8).f2, (rd_T27 x359004 x8).f3, (rd_T27 x359004 x8).f4, true)) else (none)) else (none)))
def SS_.f (k : Nat) (a0 : ByteArray) (a1_0 : Int) (a1_1 : Int) (a1_2 : Int) (l1_3 : List (S64)) (l1_4 : List (S27)) (a2 : ByteArray) : Option (Int × Int × Int × (List (S64)) × (List (S27)) × Bool) := if a1_0 = 6 then ((NN_.f k a0 a1_0 a1_1 a1_2 l1_3 l1_4 a2).bind fun t360 => (if t360 < 0 then (some (0, 0, 0, ([] : List (S64)), ([] : List (S27)), false)) else (if 0 ≤ t360 then (if t360 < (l1_4.length : Int) then (some ((rd_T27 l1_4 t360).f0, (rd_T27 l1_4 t360).f1, (rd_T27 l1_4 t360).f2, (rd_T27 l1_4 t360).f3, (rd_T27 l1_4 t360).f4, true)) else (none)) else (none)))) else (if a1_0 = 5 then ((Bra_.f k a2).bind fun bt362 => (if bt362.2 = true then (SS_.j0 k (-1) bt362.1 (decide (bt362.1 < (l1_4.length : Int))) a1_0 a1_1 a1_2 l1_3 l1_4) else (SS_.j0 k (-1) bt362.1 false a1_0 a1_1 a1_2 l1_3 l1_4))) else (if (-1) < 0 then (some (0, 0, 0, ([] : List (S64)), ([] : List (S27)), false)) else (none)))
set_option maxHeartbeats 8000000 in
set_option maxRecDepth 100000 in
theorem SS_.calls (k : Nat) (a0 : ByteArray) (a1_0 : Int) (a1_1 : Int) (a1_2 : Int) (A1_3 : Option Addr) (c1_3 : Nat) (l1_3 : List (S64)) (P1_4_ : Nat → Prop) (A1_4 : Option Addr) (c1_4 : Nat) (l1_4 : List (S27)) (a2 : ByteArray) (r1 : Int) (r2 : Int) (r3 : Int) (r4 : List (S64)) (r5 : List (S27)) (r6 : Bool) (w : World) (hr1_3 : Kd.C k64 w A1_3 l1_3.length l1_3) (hc1_3 : l1_3.length ≤ c1_3) (hs1_4 : Kd.V k27 27 w w.heap.size (fun k_ => P1_4_ k_) (.slice A1_4 l1_4.length c1_4) l1_4) (h : SS_.f k a0 a1_0 a1_1 a1_2 l1_3 l1_4 a2 = some (r1, r2, r3, r4, r5, r6)) :
    Calls Tryz.prog 17 #[.string a0, .agg #[.int .i64 a1_0, .int .i64 a1_1, .int .i64 a1_2, .slice A1_3 l1_3.length c1_3, .slice A1_4 l1_4.length c1_4], .string a2] w fun e w' => ∃ v3_ v4_ : Value, e = .returned (.tuple #[.agg #[.int .i64 r1, .int .i64 r2, .int .i64 r3, v3_, v4_], .bool r6]) ∧ Kd.V k64 64 w' w.heap.size (fun k_ => (P1_4_ k_ ∨ w.heap.size ≤ k_)) v3_ r4 ∧ Kd.V k27 27 w' w.heap.size (fun k_ => (P1_4_ k_ ∨ w.heap.size ≤ k_)) v4_ r5 ∧ Below w.heap.size w w' := by
 have hu27 := Tryz.underlying27
 have HR1_3 := Aside0.mk hr1_3
 have HC1_3 := Aside0.mk hc1_3
 clear hr1_3 hc1_3
 have HO1_4 := Aside0.mk (show Kd.V k27 27 w w.heap.size (fun k_ => (P1_4_ k_ ∨ w.heap.size ≤ k_)) (.slice A1_4 l1_4.length c1_4) l1_4 from Kd.V_mono hs1_4 (fun k_ hk => .inl hk))
 have HB := Aside0.mk (Below.refl w.heap.size w)
 have H : (if a1_0 = 6 then ((NN_.f k a0 a1_0 a1_1 a1_2 l1_3 l1_4 a2).bind fun t360 => (if t360 < 0 then (some (0, 0, 0, ([] : List (S64)), ([] : List (S27)), false)) else (if 0 ≤ t360 then (if t360 < (l1_4.length : Int) then (some ((rd_T27 l1_4 t360).f0, (rd_T27 l1_4 t360).f1, (rd_T27 l1_4 t360).f2, (rd_T27 l1_4 t360).f3, (rd_T27 l1_4 t360).f4, true)) else (none)) else (none)))) else (if a1_0 = 5 then ((Bra_.f k a2).bind fun bt362 => (if bt362.2 = true then (SS_.j0 k (-1) bt362.1 (decide (bt362.1 < (l1_4.length : Int))) a1_0 a1_1 a1_2 l1_3 l1_4) else (SS_.j0 k (-1) bt362.1 false a1_0 a1_1 a1_2 l1_3 l1_4))) else (if (-1) < 0 then (some (0, 0, 0, ([] : List (S64)), ([] : List (S27)), false)) else (none)))) = some (r1, r2, r3, r4, r5, r6) := h
 clear h
 by_cases c4 : a1_0 = 6
 ·
  rw [if_pos c4] at H
  have c4b0 := beq_iff_eq.mpr c4
  have c4b1 := bne_eq_false_iff_eq.mpr c4
  clear c4
  replace H := Option.bind_eq_some_iff.mp H
  obtain ⟨t360, A50, H⟩ := H
  try dsimp only at H
  have A5 := Aside0.mk A50
  clear A50
  by_cases c6 : t360 < 0
  ·
   rw [if_pos c6] at H
   have c6b0 := decide_eq_true c6
   clear c6
   simp only [Option.some.injEq, Prod.mk.injEq] at H
   obtain ⟨rfl, rfl, rfl, rfl, rfl, rfl⟩ := H
   go_enter Tryz.func17, Tryz.ntmps17
   go_wp2_with (first | ((with_reducible refine gate_dst (N := 4) rfl ?_); (try (refine gate_guard (by rfl) ?_; dsimp only)); refine zbo (N := 4) (cs := #[.int .i64 a1_0, .int .i64 a1_1, .int .i64 a1_2, .slice A1_3 l1_3.length c1_3, .slice A1_4 l1_4.length c1_4]) (t := 27) ?_; intro gb358 hg w7 hbox hb; replace HO1_4 := zve HO1_4 hg hb; have BK358 := Aside0.mk (hbox); have GW358 := zgw hg HB; have GE358 := zgw hg HB; replace HB := zbs HB hb; clear hb hbox hg) | ((with_reducible refine gate_dst (N := 6) rfl ?_); (try (refine gate_guard (by rfl) ?_; dsimp only)); refine zbo (N := 6) (cs := #[.int .i64 0, .int .i64 0, .int .i64 0, .slice none 0 0, .slice none 0 0]) (t := 27) ?_; intro gb359 hg w8 hbox hb; replace HO1_4 := zve HO1_4 hg hb; have BK359 := Aside0.mk (hbox); have GW359 := zgw hg HB; have GE359 := zgw hg HB; replace HB := zbs HB hb; have NB358_359 := znl hg BK358; have NB359_358 := zng hg BK358; replace BK358 := zbb BK358 hb; clear hb hbox hg; have hnb9 := NB358_359.out; have hnc9 := NB359_358.out; have hz10 := zc5 BK358.out) | ((with_reducible refine gate_callee (f := 29) rfl ?_); refine goesL_ (some 18) rfl rfl Tryz.func29 (by kernel_rfl) rfl #[.string a0, .agg #[.int .i64 a1_0, .int .i64 a1_1, .int .i64 a1_2, .slice A1_3 l1_3.length c1_3, .slice A1_4 l1_4.length c1_4], .string a2] rfl zM ?_; (with_reducible refine (NN_.calls k a0 a1_0 a1_1 a1_2 _ _ l1_3 _ _ l1_4 a2 t360 _ ?side1 ?side2 ?side3 ?side4 A5.out).mono ?_); (case side1 => exact zkc (Kd.C_below HR1_3.out HB.out)); (case side2 => exact HC1_3.out); (case side3 => repeat (first | exact (Kd.V_reads' HO1_4.out).2.2 | (with_reducible refine Kd.C_alloc ?_ _) | (with_reducible refine Kd.C_drewN ?_ _) | (with_reducible refine Kd.C_drew ?_))); (case side4 => exact (Kd.V_reads' HO1_4.out).2.1); rintro e w11 ⟨rfl, hb⟩; refine ⟨_, rfl, ?_⟩; replace HO1_4 := zvb HO1_4 hb; replace BK358 := zbb BK358 hb; replace BK359 := zbb BK359 hb; replace HB := zbs HB hb; clear hb; have hz12 := zc5 BK359.out))
   refine bodyPost_ret (results_ct rfl _ _ gb359 27 #[.int .i64 0, .int .i64 0, .int .i64 0, .slice none 0 0, .slice none 0 0] (0, 0) _ rfl (zbp BK359) Tryz.underlying27 rfl (by kernel_rfl)) rfl ?_
   exact ⟨_, _, zX, Kd.V_nil _ _ _ _ _, Kd.V_nil _ _ _ _ _, zB HB.out⟩
  rw [if_neg c6] at H
  have c6b0 := decide_eq_false c6
  clear c6
  by_cases c13 : 0 ≤ t360
  ·
   rw [if_pos c13] at H
   have c13b0 := decide_eq_true c13
   clear c13
   by_cases c14 : t360 < (l1_4.length : Int)
   ·
    rw [if_pos c14] at H
    have c14b0 := decide_eq_true c14
    clear c14
    simp only [Option.some.injEq, Prod.mk.injEq] at H
    obtain ⟨rfl, rfl, rfl, rfl, rfl, rfl⟩ := H
    go_enter Tryz.func17, Tryz.ntmps17
    go_wp2_with (first | ((with_reducible refine gate_dst (N := 4) rfl ?_); (try (refine gate_guard (by rfl) ?_; dsimp only)); refine zbo (N := 4) (cs := #[.int .i64 a1_0, .int .i64 a1_1, .int .i64 a1_2, .slice A1_3 l1_3.length c1_3, .slice A1_4 l1_4.length c1_4]) (t := 27) ?_; intro gb358 hg w15 hbox hb; replace HO1_4 := zve HO1_4 hg hb; have BK358 := Aside0.mk (hbox); have GW358 := zgw hg HB; have GE358 := zgw hg HB; replace HB := zbs HB hb; clear hb hbox hg) | ((with_reducible refine gate_dst (N := 6) rfl ?_); (try (refine gate_guard (by rfl) ?_; dsimp only)); refine zbo (N := 6) (cs := #[.int .i64 0, .int .i64 0, .int .i64 0, .slice none 0 0, .slice none 0 0]) (t := 27) ?_; intro gb359 hg w16 hbox hb; replace HO1_4 := zve HO1_4 hg hb; have BK359 := Aside0.mk (hbox); have GW359 := zgw hg HB; have GE359 := zgw hg HB; replace HB := zbs HB hb; have NB358_359 := znl hg BK358; have NB359_358 := zng hg BK358; replace BK358 := zbb BK358 hb; clear hb hbox hg; have hnb17 := NB358_359.out; have hnc17 := NB359_358.out; have hz18 := zc5 BK358.out) | ((with_reducible refine gate_callee (f := 29) rfl ?_); refine goesL_ (some 18) rfl rfl Tryz.func29 (by kernel_rfl) rfl #[.string a0, .agg #[.int .i64 a1_0, .int .i64 a1_1, .int .i64 a1_2, .slice A1_3 l1_3.length c1_3, .slice A1_4 l1_4.length c1_4], .string a2] rfl zM ?_; (with_reducible refine (NN_.calls k a0 a1_0 a1_1 a1_2 _ _ l1_3 _ _ l1_4 a2 t360 _ ?side1 ?side2 ?side3 ?side4 A5.out).mono ?_); (case side1 => exact zkc (Kd.C_below HR1_3.out HB.out)); (case side2 => exact HC1_3.out); (case side3 => repeat (first | exact (Kd.V_reads' HO1_4.out).2.2 | (with_reducible refine Kd.C_alloc ?_ _) | (with_reducible refine Kd.C_drewN ?_ _) | (with_reducible refine Kd.C_drew ?_))); (case side4 => exact (Kd.V_reads' HO1_4.out).2.1); rintro e w19 ⟨rfl, hb⟩; refine ⟨_, rfl, ?_⟩; replace HO1_4 := zvb HO1_4 hb; replace BK358 := zbb BK358 hb; replace BK359 := zbb BK359 hb; replace HB := zbs HB hb; clear hb; have hz20 := zc5 BK358.out; have p361 : 0 ≤ (t360 : Int) := dT; have q361 : t360 < (l1_4.length : Int) := dT; obtain ⟨ad361, A361_3, c361_3, A361_4, c361_4, e361, hx361_0, hx361_1, hx361_2, hx361_3, hx361_4, hl361_3, hi361_3, hl361_4, hi361_4⟩ := at_T27 (Kd.V_reads' HO1_4.out).2.2 t360 p361 q361; cases e361; obtain ⟨ce361, hce361, hMe361, hcc361⟩ := Kd.V_get HO1_4.out z27 t360 p361 (by first | exact q361 | exact dT | (have e_ := (Kd.V_reads' HO1_4.out).1; omega)); obtain ⟨ua361_3, uc361_3, ua361_4, uc361_4, rfl, ul361_3, ge361_3, ul361_4, ge361_4⟩ := k27_openF hMe361; have hv361_3 := hcc361 3 _ rfl; rw [add_field _ _ 3 (by omega)] at hv361_3; replace hv361_3 := Option.some.inj (hv361_3.symm.trans hx361_3); injection hv361_3 with hva_ hvn_ hvc_; rw [hva_] at ge361_3; rw [hvc_] at ul361_3; have HL361_3 := Aside0.mk (show Kd.V k64 64 _ w.heap.size _ _ ((rd_T27 l1_4 t360).f3) from Kd.V_mk ul361_3 ge361_3); clear hva_ hvn_ hvc_ ge361_3 ul361_3; have hv361_4 := hcc361 4 _ rfl; rw [add_field _ _ 4 (by omega)] at hv361_4; replace hv361_4 := Option.some.inj (hv361_4.symm.trans hx361_4); injection hv361_4 with hva_ hvn_ hvc_; rw [hva_] at ge361_4; rw [hvc_] at ul361_4; have HL361_4 := Aside0.mk (show Kd.V k27 27 _ w.heap.size _ _ ((rd_T27 l1_4 t360).f4) from Kd.V_mk ul361_4 ge361_4); clear hva_ hvn_ hvc_ ge361_4 ul361_4; clear hcc361 hce361; have HR361_3 := Aside0.mk hi361_3; have HC361_3 := Aside0.mk hl361_3; clear hi361_3 hl361_3; have HR361_4 := Aside0.mk hi361_4; have HC361_4 := Aside0.mk hl361_4; clear hi361_4 hl361_4; replace p361 := eq_true p361; replace q361 := eq_true q361; have hz21 := zc5 BK359.out))
    refine bodyPost_ret (results_ct rfl _ _ gb359 27 #[.int .i64 ((rd_T27 l1_4 t360).f0), .int .i64 ((rd_T27 l1_4 t360).f1), .int .i64 ((rd_T27 l1_4 t360).f2), .slice A361_3 ((rd_T27 l1_4 t360).f3).length c361_3, .slice A361_4 ((rd_T27 l1_4 t360).f4).length c361_4] (0, 0) _ rfl (zbp BK359) Tryz.underlying27 rfl (by kernel_rfl)) rfl ?_
    exact ⟨_, _, zX, by (with_reducible repeat (first | apply Kd.V_alloc | apply Kd.V_drewN | apply Kd.V_drew)); exact Kd.V_mono (Kd.V_far (p := ⟨gb359, 4, none⟩) (Kd.V_far (p := ⟨gb359, 3, none⟩) (Kd.V_far (p := ⟨gb359, 2, none⟩) (Kd.V_far (p := ⟨gb359, 1, none⟩) (Kd.V_far (p := ⟨gb359, 0, none⟩) (Kd.V_mono HL361_3.out (fun k_ hk => (⟨hk, hk.2⟩ : _ ∧ k_ ≠ gb359))) (fun _ hk => hk.2) (.int .i64 ((rd_T27 l1_4 t360).f0))) (fun _ hk => hk.2) (.int .i64 ((rd_T27 l1_4 t360).f1))) (fun _ hk => hk.2) (.int .i64 ((rd_T27 l1_4 t360).f2))) (fun _ hk => hk.2) (.slice A361_3 ((rd_T27 l1_4 t360).f3).length c361_3)) (fun _ hk => hk.2) (.slice A361_4 ((rd_T27 l1_4 t360).f4).length c361_4)) (fun _ hk => hk.1.1.1), by (with_reducible repeat (first | apply Kd.V_alloc | apply Kd.V_drewN | apply Kd.V_drew)); exact Kd.V_mono (Kd.V_far (p := ⟨gb359, 4, none⟩) (Kd.V_far (p := ⟨gb359, 3, none⟩) (Kd.V_far (p := ⟨gb359, 2, none⟩) (Kd.V_far (p := ⟨gb359, 1, none⟩) (Kd.V_far (p := ⟨gb359, 0, none⟩) (Kd.V_mono HL361_4.out (fun k_ hk => (⟨hk, hk.2⟩ : _ ∧ k_ ≠ gb359))) (fun _ hk => hk.2) (.int .i64 ((rd_T27 l1_4 t360).f0))) (fun _ hk => hk.2) (.int .i64 ((rd_T27 l1_4 t360).f1))) (fun _ hk => hk.2) (.int .i64 ((rd_T27 l1_4 t360).f2))) (fun _ hk => hk.2) (.slice A361_3 ((rd_T27 l1_4 t360).f3).length c361_3)) (fun _ hk => hk.2) (.slice A361_4 ((rd_T27 l1_4 t360).f4).length c361_4)) (fun _ hk => hk.1.1.1), zB HB.out⟩
   rw [if_neg c14] at H
   exact absurd H (by simp)
  rw [if_neg c13] at H
  exact absurd H (by simp)
 rw [if_neg c4] at H
 have c4b0 := beq_eq_false_iff_ne.mpr c4
 have c4b1 := bne_iff_ne.mpr c4
 by_cases c22 : a1_0 = 5
 ·
  rw [if_pos c22] at H
  have c22b0 := beq_iff_eq.mpr c22
  have c22b1 := bne_eq_false_iff_eq.mpr c22
  clear c22
  replace H := Option.bind_eq_some_iff.mp H
  obtain ⟨⟨t362, t363⟩, A230, H⟩ := H
  try dsimp only at H
  have A23 := Aside0.mk A230
  clear A230
  have HC24 := Aside0.mk H
  clear H
  go_enter Tryz.func17, Tryz.ntmps17
  go_upto_region 7 with (first | ((with_reducible refine gate_dst (N := 4) rfl ?_); (try (refine gate_guard (by rfl) ?_; dsimp only)); refine zbo (N := 4) (cs := #[.int .i64 a1_0, .int .i64 a1_1, .int .i64 a1_2, .slice A1_3 l1_3.length c1_3, .slice A1_4 l1_4.length c1_4]) (t := 27) ?_; intro gb358 hg w25 hbox hb; replace HO1_4 := zve HO1_4 hg hb; have BK358 := Aside0.mk (hbox); have GW358 := zgw hg HB; have GE358 := zgw hg HB; replace HB := zbs HB hb; clear hb hbox hg) | ((with_reducible refine gate_dst (N := 6) rfl ?_); (try (refine gate_guard (by rfl) ?_; dsimp only)); refine zbo (N := 6) (cs := #[.int .i64 0, .int .i64 0, .int .i64 0, .slice none 0 0, .slice none 0 0]) (t := 27) ?_; intro gb359 hg w26 hbox hb; replace HO1_4 := zve HO1_4 hg hb; have BK359 := Aside0.mk (hbox); have GW359 := zgw hg HB; have GE359 := zgw hg HB; replace HB := zbs HB hb; have NB358_359 := znl hg BK358; have NB359_358 := zng hg BK358; replace BK358 := zbb BK358 hb; clear hb hbox hg; have hnb27 := NB358_359.out; have hnc27 := NB359_358.out; have hz28 := zc5 BK358.out) | ((with_reducible refine gate_callee (f := 30) rfl ?_); refine goesL_ (some 23) rfl rfl Tryz.func30 (by kernel_rfl) rfl #[.string a2] rfl zM ?_; (with_reducible refine (Bra_.calls k a2 t362 t363 _ A23.out).mono ?_); rintro e w' ⟨rfl, ⟨nd, rfl⟩⟩; refine ⟨_, rfl, ?_⟩))
  (try simp only [Act.put, List.setIfInBounds_toArray, List.set_cons_zero, List.set_cons_succ])
  go_cut [33] (fun v33 wc => ∃ (kq : Nat) (x33_23 : Bool), v33 = .bool x33_23 ∧ Aside0 (SS_.j0 kq (-1) t362 x33_23 a1_0 a1_1 a1_2 l1_3 l1_4 = some (r1, r2, r3, r4, r5, r6)) ∧ Aside0 (kq ≤ k) ∧ Aside0 (Kd.V k27 27 wc w.heap.size (fun k_ => (P1_4_ k_ ∨ w.heap.size ≤ k_) ∧ k_ ≠ gb358 ∧ k_ ≠ gb359) (.slice A1_4 l1_4.length c1_4) l1_4) ∧ Aside0 (wc.heap[gb358]? = some (.cells #[.int .i64 a1_0, .int .i64 a1_1, .int .i64 a1_2, (.slice A1_3 l1_3.length c1_3), (.slice A1_4 l1_4.length c1_4)] 27 (0, 0))) ∧ Aside0 (wc.heap[gb359]? = some (.cells #[.int .i64 0, .int .i64 0, .int .i64 0, (.slice none 0 0), (.slice none 0 0)] 27 (0, 0))) ∧ Aside0 (Below w.heap.size w wc))
  case first =>
   have H := HC24.out
   clear HC24
   by_cases c29 : t363 = true
   ·
    subst c29
    rw [if_pos rfl] at H
    have H' := Aside0.mk H
    clear H
    have hnb30 := NB358_359.out
    have hnc30 := NB359_358.out
    have hz31 := zc5 BK358.out
    go_wp2
    go_meet
    case rel => exact ⟨_, (decide (t362 < (l1_4.length : Int))), zE, H', ⟨by first | omega | exact Nat.le_refl _⟩, ⟨by (with_reducible repeat (first | apply Kd.V_alloc | apply Kd.V_drewN | apply Kd.V_drew)); exact Kd.V_mono HO1_4.out (fun _ hk => ⟨hk.1.1, ⟨hk.1.2, hk.2⟩⟩)⟩, ⟨zbx BK358⟩, ⟨zbx BK359⟩, ⟨zB HB.out⟩⟩
   replace c29 := Bool.eq_false_iff.mpr c29
   subst c29
   rw [if_neg Bool.false_ne_true] at H
   have H' := Aside0.mk H
   clear H
   go_wp2
   go_meet
   case rel => exact ⟨_, (false), zE, H', ⟨by first | omega | exact Nat.le_refl _⟩, ⟨by (with_reducible repeat (first | apply Kd.V_alloc | apply Kd.V_drewN | apply Kd.V_drew)); exact Kd.V_mono HO1_4.out (fun _ hk => ⟨hk.1.1, ⟨hk.1.2, hk.2⟩⟩)⟩, ⟨zbx BK358⟩, ⟨zbx BK359⟩, ⟨zB HB.out⟩⟩
  clear HC24
  (try clear c4); (try clear c4b0); (try clear c4b1); (try clear c22b0); (try clear c22b1); (try clear hz28)
  obtain ⟨kq, x33_23, rfl, HA, HJ23, HO_359004, BK358, BK359, HB⟩ := hcut
  rcases kq with _ | kj23
  · exact absurd HA.out (by simp [SS_.j0])
  have H := HA.out
  clear HA
  simp only [SS_.j0] at H
  by_cases c32 : x33_23 = true
  ·
   subst c32
   rw [if_pos rfl] at H
   by_cases c33 : t362 < 0
   ·
    rw [if_pos c33] at H
    have c33b0 := decide_eq_true c33
    clear c33
    simp only [Option.some.injEq, Prod.mk.injEq] at H
    obtain ⟨rfl, rfl, rfl, rfl, rfl, rfl⟩ := H
    have hnb34 := NB359_358.out
    have hnc34 := NB358_359.out
    have hz35 := zc5 BK359.out
    go_wp2
    refine bodyPost_ret (results_ct rfl _ _ gb359 27 #[.int .i64 0, .int .i64 0, .int .i64 0, .slice none 0 0, .slice none 0 0] (0, 0) _ rfl (zbp BK359) Tryz.underlying27 rfl (by kernel_rfl)) rfl ?_
    exact ⟨_, _, zX, Kd.V_nil _ _ _ _ _, Kd.V_nil _ _ _ _ _, zB HB.out⟩
   rw [if_neg c33] at H
   have c33b0 := decide_eq_false c33
   clear c33
   by_cases c36 : 0 ≤ t362
   ·
    rw [if_pos c36] at H
    have c36b0 := decide_eq_true c36
    clear c36
    by_cases c37 : t362 < (l1_4.length : Int)
    ·
     rw [if_pos c37] at H
     have c37b0 := decide_eq_true c37
     clear c37
     simp only [Option.some.injEq, Prod.mk.injEq] at H
     obtain ⟨rfl, rfl, rfl, rfl, rfl, rfl⟩ := H
     have hnb38 := NB358_359.out
     have hnc38 := NB359_358.out
     have hz39 := zc5 BK358.out
     have p364 : 0 ≤ (t362 : Int) := dT
     have q364 : t362 < (l1_4.length : Int) := dT
     obtain ⟨ad364, A364_3, c364_3, A364_4, c364_4, e364, hx364_0, hx364_1, hx364_2, hx364_3, hx364_4, hl364_3, hi364_3, hl364_4, hi364_4⟩ := at_T27 (Kd.V_reads' HO_359004.out).2.2 t362 p364 q364
     cases e364
     obtain ⟨ce364, hce364, hMe364, hcc364⟩ := Kd.V_get HO_359004.out z27 t362 p364 (by first | exact q364 | exact dT | (have e_ := (Kd.V_reads' HO_359004.out).1; omega))
     obtain ⟨ua364_3, uc364_3, ua364_4, uc364_4, rfl, ul364_3, ge364_3, ul364_4, ge364_4⟩ := k27_openF hMe364
     have hv364_3 := hcc364 3 _ rfl
     rw [add_field _ _ 3 (by omega)] at hv364_3
     replace hv364_3 := Option.some.inj (hv364_3.symm.trans hx364_3)
     injection hv364_3 with hva_ hvn_ hvc_
     rw [hva_] at ge364_3
     rw [hvc_] at ul364_3
     have HL364_3 := Aside0.mk (show Kd.V k64 64 _ w.heap.size _ _ ((rd_T27 l1_4 t362).f3) from Kd.V_mk ul364_3 ge364_3)
     clear hva_ hvn_ hvc_ ge364_3 ul364_3
     have hv364_4 := hcc364 4 _ rfl
     rw [add_field _ _ 4 (by omega)] at hv364_4
     replace hv364_4 := Option.some.inj (hv364_4.symm.trans hx364_4)
     injection hv364_4 with hva_ hvn_ hvc_
     rw [hva_] at ge364_4
     rw [hvc_] at ul364_4
     have HL364_4 := Aside0.mk (show Kd.V k27 27 _ w.heap.size _ _ ((rd_T27 l1_4 t362).f4) from Kd.V_mk ul364_4 ge364_4)
     clear hva_ hvn_ hvc_ ge364_4 ul364_4
     clear hcc364 hce364
     have HR364_3 := Aside0.mk hi364_3
     have HC364_3 := Aside0.mk hl364_3
     clear hi364_3 hl364_3
     have HR364_4 := Aside0.mk hi364_4
     have HC364_4 := Aside0.mk hl364_4
     clear hi364_4 hl364_4
     replace p364 := eq_true p364
     replace q364 := eq_true q364
     have hz40 := zc5 BK359.out
     go_wp2
     refine bodyPost_ret (results_ct rfl _ _ gb359 27 #[.int .i64 ((rd_T27 l1_4 t362).f0), .int .i64 ((rd_T27 l1_4 t362).f1), .int .i64 ((rd_T27 l1_4 t362).f2), .slice A364_3 ((rd_T27 l1_4 t362).f3).length c364_3, .slice A364_4 ((rd_T27 l1_4 t362).f4).length c364_4] (0, 0) _ rfl (zbp BK359) Tryz.underlying27 rfl (by kernel_rfl)) rfl ?_
     exact ⟨_, _, zX, by (with_reducible repeat (first | apply Kd.V_alloc | apply Kd.V_drewN | apply Kd.V_drew)); exact Kd.V_mono (Kd.V_far (p := ⟨gb359, 4, none⟩) (Kd.V_far (p := ⟨gb359, 3, none⟩) (Kd.V_far (p := ⟨gb359, 2, none⟩) (Kd.V_far (p := ⟨gb359, 1, none⟩) (Kd.V_far (p := ⟨gb359, 0, none⟩) (Kd.V_mono HL364_3.out (fun k_ hk => (⟨hk, hk.2.2⟩ : _ ∧ k_ ≠ gb359))) (fun _ hk => hk.2) (.int .i64 ((rd_T27 l1_4 t362).f0))) (fun _ hk => hk.2) (.int .i64 ((rd_T27 l1_4 t362).f1))) (fun _ hk => hk.2) (.int .i64 ((rd_T27 l1_4 t362).f2))) (fun _ hk => hk.2) (.slice A364_3 ((rd_T27 l1_4 t362).f3).length c364_3)) (fun _ hk => hk.2) (.slice A364_4 ((rd_T27 l1_4 t362).f4).length c364_4)) (fun _ hk => hk.1.1), by (with_reducible repeat (first | apply Kd.V_alloc | apply Kd.V_drewN | apply Kd.V_drew)); exact Kd.V_mono (Kd.V_far (p := ⟨gb359, 4, none⟩) (Kd.V_far (p := ⟨gb359, 3, none⟩) (Kd.V_far (p := ⟨gb359, 2, none⟩) (Kd.V_far (p := ⟨gb359, 1, none⟩) (Kd.V_far (p := ⟨gb359, 0, none⟩) (Kd.V_mono HL364_4.out (fun k_ hk => (⟨hk, hk.2.2⟩ : _ ∧ k_ ≠ gb359))) (fun _ hk => hk.2) (.int .i64 ((rd_T27 l1_4 t362).f0))) (fun _ hk => hk.2) (.int .i64 ((rd_T27 l1_4 t362).f1))) (fun _ hk => hk.2) (.int .i64 ((rd_T27 l1_4 t362).f2))) (fun _ hk => hk.2) (.slice A364_3 ((rd_T27 l1_4 t362).f3).length c364_3)) (fun _ hk => hk.2) (.slice A364_4 ((rd_T27 l1_4 t362).f4).length c364_4)) (fun _ hk => hk.1.1), zB HB.out⟩
    rw [if_neg c37] at H
    exact absurd H (by simp)
   rw [if_neg c36] at H
   exact absurd H (by simp)
  replace c32 := Bool.eq_false_iff.mpr c32
  subst c32
  rw [if_neg Bool.false_ne_true] at H
  by_cases c41 : (-1) < 0
  ·
   rw [if_pos c41] at H
   have c41b0 := decide_eq_true c41
   clear c41
   simp only [Option.some.injEq, Prod.mk.injEq] at H
   obtain ⟨rfl, rfl, rfl, rfl, rfl, rfl⟩ := H
   have hnb42 := NB359_358.out
   have hnc42 := NB358_359.out
   have hz43 := zc5 BK359.out
   go_wp2
   refine bodyPost_ret (results_ct rfl _ _ gb359 27 #[.int .i64 0, .int .i64 0, .int .i64 0, .slice none 0 0, .slice none 0 0] (0, 0) _ rfl (zbp BK359) Tryz.underlying27 rfl (by kernel_rfl)) rfl ?_
   exact ⟨_, _, zX, Kd.V_nil _ _ _ _ _, Kd.V_nil _ _ _ _ _, zB HB.out⟩
  rw [if_neg c41] at H
  exact absurd (by decide) c41
 rw [if_neg c22] at H
 have c22b0 := beq_eq_false_iff_ne.mpr c22
 have c22b1 := bne_iff_ne.mpr c22
 by_cases c44 : (-1) < 0
 ·
  rw [if_pos c44] at H
  have c44b0 := decide_eq_true c44
  clear c44
  simp only [Option.some.injEq, Prod.mk.injEq] at H
  obtain ⟨rfl, rfl, rfl, rfl, rfl, rfl⟩ := H
  go_enter Tryz.func17, Tryz.ntmps17
  go_wp2_with (first | ((with_reducible refine gate_dst (N := 4) rfl ?_); (try (refine gate_guard (by rfl) ?_; dsimp only)); refine zbo (N := 4) (cs := #[.int .i64 a1_0, .int .i64 a1_1, .int .i64 a1_2, .slice A1_3 l1_3.length c1_3, .slice A1_4 l1_4.length c1_4]) (t := 27) ?_; intro gb358 hg w45 hbox hb; replace HO1_4 := zve HO1_4 hg hb; have BK358 := Aside0.mk (hbox); have GW358 := zgw hg HB; have GE358 := zgw hg HB; replace HB := zbs HB hb; clear hb hbox hg) | ((with_reducible refine gate_dst (N := 6) rfl ?_); (try (refine gate_guard (by rfl) ?_; dsimp only)); refine zbo (N := 6) (cs := #[.int .i64 0, .int .i64 0, .int .i64 0, .slice none 0 0, .slice none 0 0]) (t := 27) ?_; intro gb359 hg w46 hbox hb; replace HO1_4 := zve HO1_4 hg hb; have BK359 := Aside0.mk (hbox); have GW359 := zgw hg HB; have GE359 := zgw hg HB; replace HB := zbs HB hb; have NB358_359 := znl hg BK358; have NB359_358 := zng hg BK358; replace BK358 := zbb BK358 hb; clear hb hbox hg; have hnb47 := NB358_359.out; have hnc47 := NB359_358.out; have hz48 := zc5 BK358.out; have hz49 := zc5 BK359.out))
  refine bodyPost_ret (results_ct rfl _ _ gb359 27 #[.int .i64 0, .int .i64 0, .int .i64 0, .slice none 0 0, .slice none 0 0] (0, 0) _ rfl (zbp BK359) Tryz.underlying27 rfl (by kernel_rfl)) rfl ?_
  exact ⟨_, _, zX, Kd.V_nil _ _ _ _ _, Kd.V_nil _ _ _ _ _, zB HB.out⟩
 rw [if_neg c44] at H
 exact absurd (by decide) c44
end Go.Proofs.YtpdohioobbfncaaGreatDoor.PFnJpWildStop