/- what the Go functions that the law FnGjSquash reaches compute, each as a plain function, with the proof that the Go code computes just that; no condition beside those that each theorem states. -/
import Derived.Test.YtnmbpleneddkhaaPFnGjSquashx0
import Derived.Test.YtnmbpleneddkhaaPFnGjSquashx5
import Derived.Test.YtnmbpleneddkhaaPFnGjSquashx6
namespace Go.Proofs.Ytnmbpleneddkhaa.PFnGjSquash
open Go.RowKit Go.Proofs.YtnmbpleneddkhaaW.PrintWords Go.Proofs.YtnmbpleneddkhaaW.PrintLast Go.Proofs.YtnmbpleneddkhaaW.PrintMore
set_option linter.unusedVariables false
set_option linter.unusedSimpArgs false
def gjson_DoorSquash.f (k : Nat) (a0 : ByteArray) : Option (ByteArray) := (gjson_squash.f k a0).bind fun t284 => (some t284)
set_option maxHeartbeats 8000000 in
set_option maxRecDepth 100000 in
theorem gjson_DoorSquash.calls (k : Nat) (a0 : ByteArray) (r : ByteArray) (w : World) (h : gjson_DoorSquash.f k a0 = some r) :
    Calls Try.prog 28 #[.string a0] w fun e w' => e = .returned (.string r) ∧ Drawn0 w w' := by
  have H : ((gjson_squash.f k a0).bind fun t284 => (some t284)) = some r := h
  clear h
  replace H := Option.bind_eq_some_iff.mp H
  obtain ⟨t284, A20, H⟩ := H
  replace H : (some t284) = some r := H
  have A2 := Aside0.mk A20
  clear A20
  obtain rfl := Option.some.inj H
  go_enter Try.func28, Try.ntmps28
  go_wp2_with (first | ((with_reducible refine gate_callee (f := 43) rfl ?_); refine goesL_ (some 4) rfl rfl Try.func43 (by kernel_rfl) rfl #[.string a0] rfl (by (try simp only [List.map_toArray, List.map_cons, List.map_nil]); first | done | rfl | (simp only [List.length_drop, List.length_take]; rfl)) ?_; (with_reducible refine (gjson_squash.calls k a0 t284 _ A2.out).mono ?_); rintro e w' ⟨rfl, ⟨nd, rfl⟩⟩; refine ⟨_, rfl, ?_⟩))
  go_ret
  exact ⟨by first | rfl | (simp; done) | (simp [*]; done), by repeat (first | exact Drawn0.refl _ | apply Drawn0.step)⟩
def impl_GjSquash.f (k : Nat) (a0 : ByteArray) : Option (ByteArray) := (gjson_DoorSquash.f k a0).bind fun t285 => (some t285)
set_option maxHeartbeats 8000000 in
set_option maxRecDepth 100000 in
theorem impl_GjSquash.calls (k : Nat) (a0 : ByteArray) (r : ByteArray) (w : World) (h : impl_GjSquash.f k a0 = some r) :
    Calls Try.prog 15 #[.string a0] w fun e w' => e = .returned (.string r) ∧ Drawn0 w w' := by
  have H : ((gjson_DoorSquash.f k a0).bind fun t285 => (some t285)) = some r := h
  clear h
  replace H := Option.bind_eq_some_iff.mp H
  obtain ⟨t285, A20, H⟩ := H
  replace H : (some t285) = some r := H
  have A2 := Aside0.mk A20
  clear A20
  obtain rfl := Option.some.inj H
  go_enter Try.func15, Try.ntmps15
  go_wp2_with (first | ((with_reducible refine gate_callee (f := 28) rfl ?_); refine goesL_ (some 4) rfl rfl Try.func28 (by kernel_rfl) rfl #[.string a0] rfl (by (try simp only [List.map_toArray, List.map_cons, List.map_nil]); first | done | rfl | (simp only [List.length_drop, List.length_take]; rfl)) ?_; (with_reducible refine (gjson_DoorSquash.calls k a0 t285 _ A2.out).mono ?_); rintro e w' ⟨rfl, ⟨nd, rfl⟩⟩; refine ⟨_, rfl, ?_⟩))
  go_ret
  exact ⟨by first | rfl | (simp; done) | (simp [*]; done), by repeat (first | exact Drawn0.refl _ | apply Drawn0.step)⟩
def laws_FnGjSquash.j0 : Nat → ByteArray → ByteArray → Bool → Option (Bool)
  | 0, _, _, _ => none
  | k + 1, x0, x1, x15 => if x15 = true then (some true) else ((spec_Places.f k x0).bind fun bt286 => (if bt286.2.2.2.2.2 = true then (if (x0.size : Int) > 4096 then (some true) else (if (x1.size : Int) > 4096 then (some true) else (if bt286.1 < 4 then (some true) else (if 0 ≤ bt286.2.1 then (if bt286.2.1 ≤ bt286.2.2.1 then (if bt286.2.2.1 ≤ (x0.size : Int) then (if (x0.extract (bt286.2.1 : Int).toNat (bt286.2.2.1 : Int).toNat).size + x1.size ≤ 9223372036854775807 then ((impl_GjSquash.f k ((x0.extract (bt286.2.1 : Int).toNat (bt286.2.2.1 : Int).toNat) ++ x1)).bind fun t297 => (some (t297.toList == (x0.extract (bt286.2.1 : Int).toNat (bt286.2.2.1 : Int).toNat).toList))) else (none)) else (none)) else (none)) else (none))))) else (some true)))
def laws_FnGjSquash.f (k : Nat) (a0 : ByteArray) (a1 : ByteArray) : Option (Bool) := if (a0.size : Int) > 2147483647 then (laws_FnGjSquash.j0 k a0 a1 true) else (laws_FnGjSquash.j0 k a0 a1 (decide ((a1.size : Int) > 2147483647)))
set_option maxHeartbeats 8000000 in
set_option maxRecDepth 100000 in
theorem laws_FnGjSquash.calls (k : Nat) (a0 : ByteArray) (a1 : ByteArray) (r : Bool) (w : World) (h : laws_FnGjSquash.f k a0 a1 = some r) :
    Calls Try.prog 5 #[.string a0, .string a1] w fun e w' => e = .returned (.bool r) ∧ Below w.heap.size w w' := by
  have hu25 := Try.underlying25
  have HB := Aside0.mk (Below.refl w.heap.size w)
  have H : (if (a0.size : Int) > 2147483647 then (laws_FnGjSquash.j0 k a0 a1 true) else (laws_FnGjSquash.j0 k a0 a1 (decide ((a1.size : Int) > 2147483647)))) = some r := h
  clear h
  have HC3 := Aside0.mk H
  clear H
  go_enter Try.func5, Try.ntmps5
  go_upto_region 1 with (fail)
  go_cut [15] (fun v15 wc => ∃ (kq : Nat) (x15_2 : Bool), v15 = .bool x15_2 ∧ Aside0 (laws_FnGjSquash.j0 kq a0 a1 x15_2 = some r) ∧ Aside0 (kq ≤ k) ∧ Aside0 (Below w.heap.size w wc))
  case first =>
    have H := HC3.out
    clear HC3
    by_cases c4 : (a0.size : Int) > 2147483647
    · rw [if_pos c4] at H
      have c4b0 : decide (2147483647 < (a0.size : Int)) = true := decide_eq_true c4
      have c4b1 : decide (2147483647 < a0.size) = true := decide_eq_true (by omega)
      clear c4
      (first | rw [c4b0] | (simp only [i64_w, i32_w]; rw [c4b0]) | skip)
      have H' := Aside0.mk H
      clear H
      go_wp2
      go_meet
      case rel => exact ⟨_, (true), (by first | rfl | (simp; done) | (simp [*]; done)), H', ⟨by first | omega | exact Nat.le_refl _⟩, ⟨by repeat (first | (with_reducible first | exact HB.out | apply below_alloc | apply pw_below_drewN | apply below_drew1) | exact HB.out)⟩⟩
    · rw [if_neg c4] at H
      have c4b0 : decide (2147483647 < (a0.size : Int)) = false := decide_eq_false c4
      have c4b1 : decide (2147483647 < a0.size) = false := decide_eq_false (by omega)
      clear c4
      (first | rw [c4b0] | (simp only [i64_w, i32_w]; rw [c4b0]) | skip)
      have H' := Aside0.mk H
      clear H
      go_wp2
      go_meet
      case rel => exact ⟨_, (decide ((a1.size : Int) > 2147483647)), (by first | rfl | (simp; done) | (simp [*]; done)), H', ⟨by first | omega | exact Nat.le_refl _⟩, ⟨by repeat (first | (with_reducible first | exact HB.out | apply below_alloc | apply pw_below_drewN | apply below_drew1) | exact HB.out)⟩⟩
  case rest =>
    clear HC3
    try clear p2
    try clear c4
    try clear c4b0
    try clear c4b1
    obtain ⟨kq, x15_2, rfl, HA, HJ2, HB⟩ := hcut
    cases kq with
    | zero => exact absurd HA.out (by simp [laws_FnGjSquash.j0])
    | succ kj2 =>
      have H := HA.out
      clear HA
      simp only [laws_FnGjSquash.j0] at H
      by_cases c5 : x15_2 = true
      · subst c5
        have H1 : (some true) = some r := by rw [if_pos rfl] at H; exact H
        clear H
        have H := H1
        clear H1
        obtain rfl := Option.some.inj H
        go_wp2
        go_ret
        exact ⟨by first | rfl | (simp [errW_none, errW_some] <;> rfl) | (simp [*, errW_none, errW_some] <;> rfl), by repeat (first | (with_reducible first | exact HB.out | apply below_alloc | apply pw_below_drewN | apply below_drew1) | exact HB.out)⟩
      · replace c5 := Bool.eq_false_iff.mpr c5
        subst c5
        have H1 : ((spec_Places.f kj2 a0).bind fun bt286 => (if bt286.2.2.2.2.2 = true then (if (a0.size : Int) > 4096 then (some true) else (if (a1.size : Int) > 4096 then (some true) else (if bt286.1 < 4 then (some true) else (if 0 ≤ bt286.2.1 then (if bt286.2.1 ≤ bt286.2.2.1 then (if bt286.2.2.1 ≤ (a0.size : Int) then (if (a0.extract (bt286.2.1 : Int).toNat (bt286.2.2.1 : Int).toNat).size + a1.size ≤ 9223372036854775807 then ((impl_GjSquash.f kj2 ((a0.extract (bt286.2.1 : Int).toNat (bt286.2.2.1 : Int).toNat) ++ a1)).bind fun t297 => (some (t297.toList == (a0.extract (bt286.2.1 : Int).toNat (bt286.2.2.1 : Int).toNat).toList))) else (none)) else (none)) else (none)) else (none))))) else (some true))) = some r := by rw [if_neg (show ¬ (false = true) by decide)] at H; exact H
        clear H
        have H := H1
        clear H1
        replace H := Option.bind_eq_some_iff.mp H
        obtain ⟨⟨t286, t287, t288, t289, t292, t295⟩, A60, H⟩ := H
        replace H : (if t295 = true then (if (a0.size : Int) > 4096 then (some true) else (if (a1.size : Int) > 4096 then (some true) else (if t286 < 4 then (some true) else (if 0 ≤ t287 then (if t287 ≤ t288 then (if t288 ≤ (a0.size : Int) then (if (a0.extract (t287 : Int).toNat (t288 : Int).toNat).size + a1.size ≤ 9223372036854775807 then ((impl_GjSquash.f kj2 ((a0.extract (t287 : Int).toNat (t288 : Int).toNat) ++ a1)).bind fun t297 => (some (t297.toList == (a0.extract (t287 : Int).toNat (t288 : Int).toNat).toList))) else (none)) else (none)) else (none)) else (none))))) else (some true)) = some r := H
        have A6 := Aside0.mk A60
        clear A60
        by_cases c7 : t295 = true
        · subst c7
          have H1 : (if (a0.size : Int) > 4096 then (some true) else (if (a1.size : Int) > 4096 then (some true) else (if t286 < 4 then (some true) else (if 0 ≤ t287 then (if t287 ≤ t288 then (if t288 ≤ (a0.size : Int) then (if (a0.extract (t287 : Int).toNat (t288 : Int).toNat).size + a1.size ≤ 9223372036854775807 then ((impl_GjSquash.f kj2 ((a0.extract (t287 : Int).toNat (t288 : Int).toNat) ++ a1)).bind fun t297 => (some (t297.toList == (a0.extract (t287 : Int).toNat (t288 : Int).toNat).toList))) else (none)) else (none)) else (none)) else (none))))) = some r := by rw [if_pos rfl] at H; exact H
          clear H
          have H := H1
          clear H1
          by_cases c8 : (a0.size : Int) > 4096
          · rw [if_pos c8] at H
            have c8b0 : decide (4096 < (a0.size : Int)) = true := decide_eq_true c8
            have c8b1 : decide (4096 < a0.size) = true := decide_eq_true (by omega)
            clear c8
            obtain rfl := Option.some.inj H
            go_wp2_with (first | ((with_reducible refine gate_callee (f := 9) rfl ?_); refine goesL_ (some 18) rfl rfl Try.func9 (by kernel_rfl) rfl #[.string a0] rfl (by (try simp only [List.map_toArray, List.map_cons, List.map_nil]); first | done | rfl | (simp only [List.length_drop, List.length_take]; rfl)) ?_; (with_reducible refine (spec_Places.calls kj2 a0 t286 t287 t288 t289 t292 true _ A6.out).mono ?_); rintro e w9 ⟨v290, v293, rfl, ho0, ho1, hb⟩; refine ⟨_, rfl, ?_⟩; have n0_ := Aside0.mk (Kd.R_lower ho0 (below_size (by repeat (first | (with_reducible first | exact HB.out | apply below_alloc | apply pw_below_drewN | apply below_drew1) | exact HB.out)))); have n1_ := Aside0.mk (Kd.R_lower ho1 (below_size (by repeat (first | (with_reducible first | exact HB.out | apply below_alloc | apply pw_below_drewN | apply below_drew1) | exact HB.out)))); have n2_ := Aside0.mk (below_step (by repeat (first | (with_reducible first | exact HB.out | apply below_alloc | apply pw_below_drewN | apply below_drew1) | exact HB.out)) hb); clear HB; have HO291 := n0_; have HO294 := n1_; have HB := n2_; clear n0_ n1_ n2_; (try clear hb); (try clear hb2); (try clear hk); (try clear hi); (try clear ho0); (try clear ho1)) | ((with_reducible refine gate_dst (N := 5) rfl ?_); (try (refine gate_guard (by rfl) ?_; dsimp only)); refine box_event ?hg (N := 5) ?hd (cs := #[.int .i64 0, .int .i64 0, .int .i64 0, .slice none 0 0, .slice none 0 0]) (t := 25) ?hr ?_; (case hd => rfl); (case hg => rfl); (case hr => first | (go_simp; done) | (go_simp; rfl)); intro gb296 hg w10 hbox hb; have n0_ := Aside0.mk (Kd.R_below (by (with_reducible repeat (first | apply Kd.R_alloc | apply Kd.R_drewN | apply Kd.R_drew)); exact HO291.out) hb); have n1_ := Aside0.mk (Kd.R_below (Kd.R_elderB (by (with_reducible repeat (first | apply Kd.R_alloc | apply Kd.R_drewN | apply Kd.R_drew)); exact HO294.out) gb296 (Nat.le_of_eq hg.symm)) hb); have n2_ := Aside0.mk (below_step (by repeat (first | (with_reducible first | exact HB.out | apply below_alloc | apply pw_below_drewN | apply below_drew1) | exact HB.out)) hb); have n3_ := Aside0.mk (hbox); have n4_ := Aside0.mk ((by rw [hg]; exact (below_size (by repeat (first | (with_reducible first | exact HB.out | apply below_alloc | apply pw_below_drewN | apply below_drew1) | exact HB.out))) : w.heap.size ≤ gb296)); have n5_ := Aside0.mk ((by rw [hg]; exact (below_size (by repeat (first | (with_reducible first | exact HB.out | apply below_alloc | apply pw_below_drewN | apply below_drew1) | exact HB.out))) : w.heap.size ≤ gb296)); clear HO291; clear HO294; clear HB; have HO291 := n0_; have HO294 := n1_; have HB := n2_; have BK296 := n3_; have GW296 := n4_; have GE296 := n5_; clear n0_ n1_ n2_ n3_ n4_ n5_; clear hb hbox hg; have hcz11_0 : w10.cell? ⟨gb296, 0, none⟩ = some (.int .i64 0) := (blk_cell BK296.out 0).trans rfl; have hcz11_1 : w10.cell? ⟨gb296, 1, none⟩ = some (.int .i64 0) := (blk_cell BK296.out 1).trans rfl; have hcz11_2 : w10.cell? ⟨gb296, 2, none⟩ = some (.int .i64 0) := (blk_cell BK296.out 2).trans rfl; have hcz11_3 : w10.cell? ⟨gb296, 3, none⟩ = some (.slice none 0 0) := (blk_cell BK296.out 3).trans rfl; have hcz11_4 : w10.cell? ⟨gb296, 4, none⟩ = some (.slice none 0 0) := (blk_cell BK296.out 4).trans rfl; have hfz11_0 := blk_frozen BK296.out 0; have hfz11_1 := blk_frozen BK296.out 1; have hfz11_2 := blk_frozen BK296.out 2; have hfz11_3 := blk_frozen BK296.out 3; have hfz11_4 := blk_frozen BK296.out 4; obtain ⟨Ao12, co12, eo12⟩ := Kd.R_slice HO291.out; subst eo12; obtain ⟨Ao13, co13, eo13⟩ := Kd.R_slice HO294.out; subst eo13))
            go_ret
            exact ⟨by first | rfl | (simp [errW_none, errW_some] <;> rfl) | (simp [*, errW_none, errW_some] <;> rfl), by repeat (first | (with_reducible first | exact HB.out | apply below_alloc | apply pw_below_drewN | apply below_drew1 | refine below_set ?_ GE296.out) | exact HB.out)⟩
          · rw [if_neg c8] at H
            have c8b0 : decide (4096 < (a0.size : Int)) = false := decide_eq_false c8
            have c8b1 : decide (4096 < a0.size) = false := decide_eq_false (by omega)
            clear c8
            by_cases c14 : (a1.size : Int) > 4096
            · rw [if_pos c14] at H
              have c14b0 : decide (4096 < (a1.size : Int)) = true := decide_eq_true c14
              have c14b1 : decide (4096 < a1.size) = true := decide_eq_true (by omega)
              clear c14
              obtain rfl := Option.some.inj H
              go_wp2_with (first | ((with_reducible refine gate_callee (f := 9) rfl ?_); refine goesL_ (some 18) rfl rfl Try.func9 (by kernel_rfl) rfl #[.string a0] rfl (by (try simp only [List.map_toArray, List.map_cons, List.map_nil]); first | done | rfl | (simp only [List.length_drop, List.length_take]; rfl)) ?_; (with_reducible refine (spec_Places.calls kj2 a0 t286 t287 t288 t289 t292 true _ A6.out).mono ?_); rintro e w15 ⟨v290, v293, rfl, ho0, ho1, hb⟩; refine ⟨_, rfl, ?_⟩; have n0_ := Aside0.mk (Kd.R_lower ho0 (below_size (by repeat (first | (with_reducible first | exact HB.out | apply below_alloc | apply pw_below_drewN | apply below_drew1) | exact HB.out)))); have n1_ := Aside0.mk (Kd.R_lower ho1 (below_size (by repeat (first | (with_reducible first | exact HB.out | apply below_alloc | apply pw_below_drewN | apply below_drew1) | exact HB.out)))); have n2_ := Aside0.mk (below_step (by repeat (first | (with_reducible first | exact HB.out | apply below_alloc | apply pw_below_drewN | apply below_drew1) | exact HB.out)) hb); clear HB; have HO291 := n0_; have HO294 := n1_; have HB := n2_; clear n0_ n1_ n2_; (try clear hb); (try clear hb2); (try clear hk); (try clear hi); (try clear ho0); (try clear ho1)) | ((with_reducible refine gate_dst (N := 5) rfl ?_); (try (refine gate_guard (by rfl) ?_; dsimp only)); refine box_event ?hg (N := 5) ?hd (cs := #[.int .i64 0, .int .i64 0, .int .i64 0, .slice none 0 0, .slice none 0 0]) (t := 25) ?hr ?_; (case hd => rfl); (case hg => rfl); (case hr => first | (go_simp; done) | (go_simp; rfl)); intro gb296 hg w16 hbox hb; have n0_ := Aside0.mk (Kd.R_below (by (with_reducible repeat (first | apply Kd.R_alloc | apply Kd.R_drewN | apply Kd.R_drew)); exact HO291.out) hb); have n1_ := Aside0.mk (Kd.R_below (Kd.R_elderB (by (with_reducible repeat (first | apply Kd.R_alloc | apply Kd.R_drewN | apply Kd.R_drew)); exact HO294.out) gb296 (Nat.le_of_eq hg.symm)) hb); have n2_ := Aside0.mk (below_step (by repeat (first | (with_reducible first | exact HB.out | apply below_alloc | apply pw_below_drewN | apply below_drew1) | exact HB.out)) hb); have n3_ := Aside0.mk (hbox); have n4_ := Aside0.mk ((by rw [hg]; exact (below_size (by repeat (first | (with_reducible first | exact HB.out | apply below_alloc | apply pw_below_drewN | apply below_drew1) | exact HB.out))) : w.heap.size ≤ gb296)); have n5_ := Aside0.mk ((by rw [hg]; exact (below_size (by repeat (first | (with_reducible first | exact HB.out | apply below_alloc | apply pw_below_drewN | apply below_drew1) | exact HB.out))) : w.heap.size ≤ gb296)); clear HO291; clear HO294; clear HB; have HO291 := n0_; have HO294 := n1_; have HB := n2_; have BK296 := n3_; have GW296 := n4_; have GE296 := n5_; clear n0_ n1_ n2_ n3_ n4_ n5_; clear hb hbox hg; have hcz17_0 : w16.cell? ⟨gb296, 0, none⟩ = some (.int .i64 0) := (blk_cell BK296.out 0).trans rfl; have hcz17_1 : w16.cell? ⟨gb296, 1, none⟩ = some (.int .i64 0) := (blk_cell BK296.out 1).trans rfl; have hcz17_2 : w16.cell? ⟨gb296, 2, none⟩ = some (.int .i64 0) := (blk_cell BK296.out 2).trans rfl; have hcz17_3 : w16.cell? ⟨gb296, 3, none⟩ = some (.slice none 0 0) := (blk_cell BK296.out 3).trans rfl; have hcz17_4 : w16.cell? ⟨gb296, 4, none⟩ = some (.slice none 0 0) := (blk_cell BK296.out 4).trans rfl; have hfz17_0 := blk_frozen BK296.out 0; have hfz17_1 := blk_frozen BK296.out 1; have hfz17_2 := blk_frozen BK296.out 2; have hfz17_3 := blk_frozen BK296.out 3; have hfz17_4 := blk_frozen BK296.out 4; obtain ⟨Ao18, co18, eo18⟩ := Kd.R_slice HO291.out; subst eo18; obtain ⟨Ao19, co19, eo19⟩ := Kd.R_slice HO294.out; subst eo19))
              go_ret
              exact ⟨by first | rfl | (simp [errW_none, errW_some] <;> rfl) | (simp [*, errW_none, errW_some] <;> rfl), by repeat (first | (with_reducible first | exact HB.out | apply below_alloc | apply pw_below_drewN | apply below_drew1 | refine below_set ?_ GE296.out) | exact HB.out)⟩
            · rw [if_neg c14] at H
              have c14b0 : decide (4096 < (a1.size : Int)) = false := decide_eq_false c14
              have c14b1 : decide (4096 < a1.size) = false := decide_eq_false (by omega)
              clear c14
              by_cases c20 : t286 < 4
              · rw [if_pos c20] at H
                have c20b0 : decide (t286 < 4) = true := decide_eq_true c20
                clear c20
                obtain rfl := Option.some.inj H
                go_wp2_with (first | ((with_reducible refine gate_callee (f := 9) rfl ?_); refine goesL_ (some 18) rfl rfl Try.func9 (by kernel_rfl) rfl #[.string a0] rfl (by (try simp only [List.map_toArray, List.map_cons, List.map_nil]); first | done | rfl | (simp only [List.length_drop, List.length_take]; rfl)) ?_; (with_reducible refine (spec_Places.calls kj2 a0 t286 t287 t288 t289 t292 true _ A6.out).mono ?_); rintro e w21 ⟨v290, v293, rfl, ho0, ho1, hb⟩; refine ⟨_, rfl, ?_⟩; have n0_ := Aside0.mk (Kd.R_lower ho0 (below_size (by repeat (first | (with_reducible first | exact HB.out | apply below_alloc | apply pw_below_drewN | apply below_drew1) | exact HB.out)))); have n1_ := Aside0.mk (Kd.R_lower ho1 (below_size (by repeat (first | (with_reducible first | exact HB.out | apply below_alloc | apply pw_below_drewN | apply below_drew1) | exact HB.out)))); have n2_ := Aside0.mk (below_step (by repeat (first | (with_reducible first | exact HB.out | apply below_alloc | apply pw_below_drewN | apply below_drew1) | exact HB.out)) hb); clear HB; have HO291 := n0_; have HO294 := n1_; have HB := n2_; clear n0_ n1_ n2_; (try clear hb); (try clear hb2); (try clear hk); (try clear hi); (try clear ho0); (try clear ho1)) | ((with_reducible refine gate_dst (N := 5) rfl ?_); (try (refine gate_guard (by rfl) ?_; dsimp only)); refine box_event ?hg (N := 5) ?hd (cs := #[.int .i64 0, .int .i64 0, .int .i64 0, .slice none 0 0, .slice none 0 0]) (t := 25) ?hr ?_; (case hd => rfl); (case hg => rfl); (case hr => first | (go_simp; done) | (go_simp; rfl)); intro gb296 hg w22 hbox hb; have n0_ := Aside0.mk (Kd.R_below (by (with_reducible repeat (first | apply Kd.R_alloc | apply Kd.R_drewN | apply Kd.R_drew)); exact HO291.out) hb); have n1_ := Aside0.mk (Kd.R_below (Kd.R_elderB (by (with_reducible repeat (first | apply Kd.R_alloc | apply Kd.R_drewN | apply Kd.R_drew)); exact HO294.out) gb296 (Nat.le_of_eq hg.symm)) hb); have n2_ := Aside0.mk (below_step (by repeat (first | (with_reducible first | exact HB.out | apply below_alloc | apply pw_below_drewN | apply below_drew1) | exact HB.out)) hb); have n3_ := Aside0.mk (hbox); have n4_ := Aside0.mk ((by rw [hg]; exact (below_size (by repeat (first | (with_reducible first | exact HB.out | apply below_alloc | apply pw_below_drewN | apply below_drew1) | exact HB.out))) : w.heap.size ≤ gb296)); have n5_ := Aside0.mk ((by rw [hg]; exact (below_size (by repeat (first | (with_reducible first | exact HB.out | apply below_alloc | apply pw_below_drewN | apply below_drew1) | exact HB.out))) : w.heap.size ≤ gb296)); clear HO291; clear HO294; clear HB; have HO291 := n0_; have HO294 := n1_; have HB := n2_; have BK296 := n3_; have GW296 := n4_; have GE296 := n5_; clear n0_ n1_ n2_ n3_ n4_ n5_; clear hb hbox hg; have hcz23_0 : w22.cell? ⟨gb296, 0, none⟩ = some (.int .i64 0) := (blk_cell BK296.out 0).trans rfl; have hcz23_1 : w22.cell? ⟨gb296, 1, none⟩ = some (.int .i64 0) := (blk_cell BK296.out 1).trans rfl; have hcz23_2 : w22.cell? ⟨gb296, 2, none⟩ = some (.int .i64 0) := (blk_cell BK296.out 2).trans rfl; have hcz23_3 : w22.cell? ⟨gb296, 3, none⟩ = some (.slice none 0 0) := (blk_cell BK296.out 3).trans rfl; have hcz23_4 : w22.cell? ⟨gb296, 4, none⟩ = some (.slice none 0 0) := (blk_cell BK296.out 4).trans rfl; have hfz23_0 := blk_frozen BK296.out 0; have hfz23_1 := blk_frozen BK296.out 1; have hfz23_2 := blk_frozen BK296.out 2; have hfz23_3 := blk_frozen BK296.out 3; have hfz23_4 := blk_frozen BK296.out 4; obtain ⟨Ao24, co24, eo24⟩ := Kd.R_slice HO291.out; subst eo24; obtain ⟨Ao25, co25, eo25⟩ := Kd.R_slice HO294.out; subst eo25))
                go_ret
                exact ⟨by first | rfl | (simp [errW_none, errW_some] <;> rfl) | (simp [*, errW_none, errW_some] <;> rfl), by repeat (first | (with_reducible first | exact HB.out | apply below_alloc | apply pw_below_drewN | apply below_drew1 | refine below_set ?_ GE296.out) | exact HB.out)⟩
              · rw [if_neg c20] at H
                have c20b0 : decide (t286 < 4) = false := decide_eq_false c20
                clear c20
                by_cases c26 : 0 ≤ t287
                · rw [if_pos c26] at H
                  have c26b0 := eq_true c26
                  have c26b1 : decide (0 ≤ t287) = true := decide_eq_true c26
                  clear c26
                  by_cases c27 : t287 ≤ t288
                  · rw [if_pos c27] at H
                    have c27b0 := eq_true c27
                    have c27b1 : decide (t287 ≤ t288) = true := decide_eq_true c27
                    clear c27
                    by_cases c28 : t288 ≤ (a0.size : Int)
                    · rw [if_pos c28] at H
                      have c28b0 := eq_true c28
                      have c28b1 : decide (t288 ≤ (a0.size : Int)) = true := decide_eq_true c28
                      clear c28
                      by_cases c29 : (a0.extract (t287 : Int).toNat (t288 : Int).toNat).size + a1.size ≤ 9223372036854775807
                      · rw [if_pos c29] at H
                        have c29b0 := eq_true c29
                        have c29b1 : decide ((a0.extract (t287 : Int).toNat (t288 : Int).toNat).size + a1.size ≤ 9223372036854775807) = true := decide_eq_true c29
                        try have c29b2 : (9223372036854775807 < (a0.extract (t287 : Int).toNat (t288 : Int).toNat).size + a1.size) = False := eq_false (Nat.not_lt.2 c29)
                        replace H := Option.bind_eq_some_iff.mp H
                        obtain ⟨t297, A300, H⟩ := H
                        replace H : (some (t297.toList == (a0.extract (t287 : Int).toNat (t288 : Int).toNat).toList)) = some r := H
                        have A30 := Aside0.mk A300
                        clear A300
                        obtain rfl := Option.some.inj H
                        go_wp2_with (first | ((with_reducible refine gate_callee (f := 9) rfl ?_); refine goesL_ (some 18) rfl rfl Try.func9 (by kernel_rfl) rfl #[.string a0] rfl (by (try simp only [List.map_toArray, List.map_cons, List.map_nil]); first | done | rfl | (simp only [List.length_drop, List.length_take]; rfl)) ?_; (with_reducible refine (spec_Places.calls kj2 a0 t286 t287 t288 t289 t292 true _ A6.out).mono ?_); rintro e w31 ⟨v290, v293, rfl, ho0, ho1, hb⟩; refine ⟨_, rfl, ?_⟩; have n0_ := Aside0.mk (Kd.R_lower ho0 (below_size (by repeat (first | (with_reducible first | exact HB.out | apply below_alloc | apply pw_below_drewN | apply below_drew1) | exact HB.out)))); have n1_ := Aside0.mk (Kd.R_lower ho1 (below_size (by repeat (first | (with_reducible first | exact HB.out | apply below_alloc | apply pw_below_drewN | apply below_drew1) | exact HB.out)))); have n2_ := Aside0.mk (below_step (by repeat (first | (with_reducible first | exact HB.out | apply below_alloc | apply pw_below_drewN | apply below_drew1) | exact HB.out)) hb); clear HB; have HO291 := n0_; have HO294 := n1_; have HB := n2_; clear n0_ n1_ n2_; (try clear hb); (try clear hb2); (try clear hk); (try clear hi); (try clear ho0); (try clear ho1)) | ((with_reducible refine gate_dst (N := 5) rfl ?_); (try (refine gate_guard (by rfl) ?_; dsimp only)); refine box_event ?hg (N := 5) ?hd (cs := #[.int .i64 0, .int .i64 0, .int .i64 0, .slice none 0 0, .slice none 0 0]) (t := 25) ?hr ?_; (case hd => rfl); (case hg => rfl); (case hr => first | (go_simp; done) | (go_simp; rfl)); intro gb296 hg w32 hbox hb; have n0_ := Aside0.mk (Kd.R_below (by (with_reducible repeat (first | apply Kd.R_alloc | apply Kd.R_drewN | apply Kd.R_drew)); exact HO291.out) hb); have n1_ := Aside0.mk (Kd.R_below (Kd.R_elderB (by (with_reducible repeat (first | apply Kd.R_alloc | apply Kd.R_drewN | apply Kd.R_drew)); exact HO294.out) gb296 (Nat.le_of_eq hg.symm)) hb); have n2_ := Aside0.mk (below_step (by repeat (first | (with_reducible first | exact HB.out | apply below_alloc | apply pw_below_drewN | apply below_drew1) | exact HB.out)) hb); have n3_ := Aside0.mk (hbox); have n4_ := Aside0.mk ((by rw [hg]; exact (below_size (by repeat (first | (with_reducible first | exact HB.out | apply below_alloc | apply pw_below_drewN | apply below_drew1) | exact HB.out))) : w.heap.size ≤ gb296)); have n5_ := Aside0.mk ((by rw [hg]; exact (below_size (by repeat (first | (with_reducible first | exact HB.out | apply below_alloc | apply pw_below_drewN | apply below_drew1) | exact HB.out))) : w.heap.size ≤ gb296)); clear HO291; clear HO294; clear HB; have HO291 := n0_; have HO294 := n1_; have HB := n2_; have BK296 := n3_; have GW296 := n4_; have GE296 := n5_; clear n0_ n1_ n2_ n3_ n4_ n5_; clear hb hbox hg; have hcz33_0 : w32.cell? ⟨gb296, 0, none⟩ = some (.int .i64 0) := (blk_cell BK296.out 0).trans rfl; have hcz33_1 : w32.cell? ⟨gb296, 1, none⟩ = some (.int .i64 0) := (blk_cell BK296.out 1).trans rfl; have hcz33_2 : w32.cell? ⟨gb296, 2, none⟩ = some (.int .i64 0) := (blk_cell BK296.out 2).trans rfl; have hcz33_3 : w32.cell? ⟨gb296, 3, none⟩ = some (.slice none 0 0) := (blk_cell BK296.out 3).trans rfl; have hcz33_4 : w32.cell? ⟨gb296, 4, none⟩ = some (.slice none 0 0) := (blk_cell BK296.out 4).trans rfl; have hfz33_0 := blk_frozen BK296.out 0; have hfz33_1 := blk_frozen BK296.out 1; have hfz33_2 := blk_frozen BK296.out 2; have hfz33_3 := blk_frozen BK296.out 3; have hfz33_4 := blk_frozen BK296.out 4; obtain ⟨Ao34, co34, eo34⟩ := Kd.R_slice HO291.out; subst eo34; obtain ⟨Ao35, co35, eo35⟩ := Kd.R_slice HO294.out; subst eo35) | ((with_reducible refine gate_callee (f := 15) rfl ?_); refine goesL_ (some 47) rfl rfl Try.func15 (by kernel_rfl) rfl #[.string ((a0.extract (t287 : Int).toNat (t288 : Int).toNat) ++ a1)] rfl (by (try simp only [List.map_toArray, List.map_cons, List.map_nil]); first | done | rfl | (simp only [List.length_drop, List.length_take]; rfl)) ?_; (with_reducible refine (impl_GjSquash.calls kj2 ((a0.extract (t287 : Int).toNat (t288 : Int).toNat) ++ a1) t297 _ A30.out).mono ?_); rintro e w' ⟨rfl, ⟨nd, rfl⟩⟩; refine ⟨_, rfl, ?_⟩))
                        go_ret
                        exact ⟨by first | rfl | (simp [errW_none, errW_some] <;> rfl) | (simp [*, errW_none, errW_some] <;> rfl), by repeat (first | (with_reducible first | exact HB.out | apply below_alloc | apply pw_below_drewN | apply below_drew1 | refine below_set ?_ GE296.out) | exact HB.out)⟩
                      · rw [if_neg c29] at H
                        exact absurd H (by simp)
                    · rw [if_neg c28] at H
                      exact absurd H (by simp)
                  · rw [if_neg c27] at H
                    exact absurd H (by simp)
                · rw [if_neg c26] at H
                  exact absurd H (by simp)
        · replace c7 := Bool.eq_false_iff.mpr c7
          subst c7
          have H1 : (some true) = some r := by rw [if_neg (show ¬ (false = true) by decide)] at H; exact H
          clear H
          have H := H1
          clear H1
          obtain rfl := Option.some.inj H
          go_wp2_with (first | ((with_reducible refine gate_callee (f := 9) rfl ?_); refine goesL_ (some 18) rfl rfl Try.func9 (by kernel_rfl) rfl #[.string a0] rfl (by (try simp only [List.map_toArray, List.map_cons, List.map_nil]); first | done | rfl | (simp only [List.length_drop, List.length_take]; rfl)) ?_; (with_reducible refine (spec_Places.calls kj2 a0 t286 t287 t288 t289 t292 false _ A6.out).mono ?_); rintro e w36 ⟨v290, v293, rfl, ho0, ho1, hb⟩; refine ⟨_, rfl, ?_⟩; have n0_ := Aside0.mk (Kd.R_lower ho0 (below_size (by repeat (first | (with_reducible first | exact HB.out | apply below_alloc | apply pw_below_drewN | apply below_drew1) | exact HB.out)))); have n1_ := Aside0.mk (Kd.R_lower ho1 (below_size (by repeat (first | (with_reducible first | exact HB.out | apply below_alloc | apply pw_below_drewN | apply below_drew1) | exact HB.out)))); have n2_ := Aside0.mk (below_step (by repeat (first | (with_reducible first | exact HB.out | apply below_alloc | apply pw_below_drewN | apply below_drew1) | exact HB.out)) hb); clear HB; have HO291 := n0_; have HO294 := n1_; have HB := n2_; clear n0_ n1_ n2_; (try clear hb); (try clear hb2); (try clear hk); (try clear hi); (try clear ho0); (try clear ho1)) | ((with_reducible refine gate_dst (N := 5) rfl ?_); (try (refine gate_guard (by rfl) ?_; dsimp only)); refine box_event ?hg (N := 5) ?hd (cs := #[.int .i64 0, .int .i64 0, .int .i64 0, .slice none 0 0, .slice none 0 0]) (t := 25) ?hr ?_; (case hd => rfl); (case hg => rfl); (case hr => first | (go_simp; done) | (go_simp; rfl)); intro gb296 hg w37 hbox hb; have n0_ := Aside0.mk (Kd.R_below (by (with_reducible repeat (first | apply Kd.R_alloc | apply Kd.R_drewN | apply Kd.R_drew)); exact HO291.out) hb); have n1_ := Aside0.mk (Kd.R_below (Kd.R_elderB (by (with_reducible repeat (first | apply Kd.R_alloc | apply Kd.R_drewN | apply Kd.R_drew)); exact HO294.out) gb296 (Nat.le_of_eq hg.symm)) hb); have n2_ := Aside0.mk (below_step (by repeat (first | (with_reducible first | exact HB.out | apply below_alloc | apply pw_below_drewN | apply below_drew1) | exact HB.out)) hb); have n3_ := Aside0.mk (hbox); have n4_ := Aside0.mk ((by rw [hg]; exact (below_size (by repeat (first | (with_reducible first | exact HB.out | apply below_alloc | apply pw_below_drewN | apply below_drew1) | exact HB.out))) : w.heap.size ≤ gb296)); have n5_ := Aside0.mk ((by rw [hg]; exact (below_size (by repeat (first | (with_reducible first | exact HB.out | apply below_alloc | apply pw_below_drewN | apply below_drew1) | exact HB.out))) : w.heap.size ≤ gb296)); clear HO291; clear HO294; clear HB; have HO291 := n0_; have HO294 := n1_; have HB := n2_; have BK296 := n3_; have GW296 := n4_; have GE296 := n5_; clear n0_ n1_ n2_ n3_ n4_ n5_; clear hb hbox hg; have hcz38_0 : w37.cell? ⟨gb296, 0, none⟩ = some (.int .i64 0) := (blk_cell BK296.out 0).trans rfl; have hcz38_1 : w37.cell? ⟨gb296, 1, none⟩ = some (.int .i64 0) := (blk_cell BK296.out 1).trans rfl; have hcz38_2 : w37.cell? ⟨gb296, 2, none⟩ = some (.int .i64 0) := (blk_cell BK296.out 2).trans rfl; have hcz38_3 : w37.cell? ⟨gb296, 3, none⟩ = some (.slice none 0 0) := (blk_cell BK296.out 3).trans rfl; have hcz38_4 : w37.cell? ⟨gb296, 4, none⟩ = some (.slice none 0 0) := (blk_cell BK296.out 4).trans rfl; have hfz38_0 := blk_frozen BK296.out 0; have hfz38_1 := blk_frozen BK296.out 1; have hfz38_2 := blk_frozen BK296.out 2; have hfz38_3 := blk_frozen BK296.out 3; have hfz38_4 := blk_frozen BK296.out 4; obtain ⟨Ao39, co39, eo39⟩ := Kd.R_slice HO291.out; subst eo39; obtain ⟨Ao40, co40, eo40⟩ := Kd.R_slice HO294.out; subst eo40))
          go_ret
          exact ⟨by first | rfl | (simp [errW_none, errW_some] <;> rfl) | (simp [*, errW_none, errW_some] <;> rfl), by repeat (first | (with_reducible first | exact HB.out | apply below_alloc | apply pw_below_drewN | apply below_drew1 | refine below_set ?_ GE296.out) | exact HB.out)⟩
/-- THE ONE PURE STATEMENT of laws_FnGjSquash: yours. -/
def laws_FnGjSquash.Pure : Prop := ∀ (a0 : ByteArray) (a1 : ByteArray), a0.size ≤ 140737488351232 → a1.size ≤ 140737488351232 → ∃ k, laws_FnGjSquash.f k a0 a1 = some true
theorem laws_FnGjSquash.walk (P : laws_FnGjSquash.Pure) (a0 : ByteArray) (a1 : ByteArray) (w : World) (w0 : a0.size ≤ 140737488351232) (w1 : a1.size ≤ 140737488351232) :
    Calls Try.prog 5 #[.string a0, .string a1] w fun e w' => e = .returned (.bool true) ∧ Below w.heap.size w w' := by
  obtain ⟨k, h⟩ := P a0 a1 w0 w1
  refine (laws_FnGjSquash.calls k a0 a1 true w h).mono ?_
  rintro e w' ⟨rfl, hd⟩
  exact ⟨rfl, hd⟩
end Go.Proofs.Ytnmbpleneddkhaa.PFnGjSquash