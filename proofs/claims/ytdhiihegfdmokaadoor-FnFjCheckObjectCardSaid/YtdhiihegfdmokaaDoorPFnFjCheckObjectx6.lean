/- what the Go functions that the law FnFjCheckObject reaches compute, each as a plain function, with the proof that the Go code computes just that; no condition beside those that each theorem states. -/
import Derived.Test.YtdhiihegfdmokaaDoorPFnFjCheckObjectx0
import Derived.Test.YtdhiihegfdmokaaDoorPFnFjCheckObjectx1
import Derived.Test.YtdhiihegfdmokaaDoorPFnFjCheckObjectx3
import Derived.Test.YtdhiihegfdmokaaDoorPFnFjCheckObjectx5
namespace Go.Proofs.YtdhiihegfdmokaaDoor.PFnFjCheckObject
open Go.RowKit Go.Proofs.YtdhiihegfdmokaaDoorW.PrintWords Go.Proofs.YtdhiihegfdmokaaDoorW.PrintLast Go.Proofs.YtdhiihegfdmokaaDoorW.PrintMore
set_option linter.unusedVariables false
set_option linter.unusedSimpArgs false
def spec_Begins.f (k : Nat) (a0 : ByteArray) : Option (Int × Int × Int × (List (S87)) × (List (S39)) × Bool) := (spec_reader_value.f k a0 0).bind fun bt267 => (if bt267.2.2.2.2.2.1 = true then (if bt267.1 = 3 then (none) else (some (bt267.1, bt267.2.1, bt267.2.2.1, bt267.2.2.2.1, bt267.2.2.2.2.1, true))) else (some (0, 0, 0, ([] : List (S87)), ([] : List (S39)), false)))
set_option maxHeartbeats 8000000 in
set_option maxRecDepth 100000 in
theorem spec_Begins.calls (k : Nat) (a0 : ByteArray) (r1 : Int) (r2 : Int) (r3 : Int) (r4 : List (S87)) (r5 : List (S39)) (r6 : Bool) (w : World) (h : spec_Begins.f k a0 = some (r1, r2, r3, r4, r5, r6)) :
    Calls Tryd.prog 19 #[.string a0] w fun e w' => ∃ v3_ v4_ : Value, e = .returned (.tuple #[.agg #[.int .i64 r1, .int .i64 r2, .int .i64 r3, v3_, v4_], .bool r6]) ∧ Kd.R k87 87 w' w.heap.size (fun _ => True) v3_ r4 ∧ Kd.R k39 39 w' w.heap.size (fun k_ => some k_ ≠ (v3_ : Value).ownBlock) v4_ r5 ∧ Below w.heap.size w w' := by
 have hu39 := Tryd.underlying39
 have hu69 := Tryd.underlying69
 have HB := Aside0.mk (Below.refl w.heap.size w)
 have H : ((spec_reader_value.f k a0 0).bind fun bt267 => (if bt267.2.2.2.2.2.1 = true then (if bt267.1 = 3 then (none) else (some (bt267.1, bt267.2.1, bt267.2.2.1, bt267.2.2.2.1, bt267.2.2.2.2.1, true))) else (some (0, 0, 0, ([] : List (S87)), ([] : List (S39)), false)))) = some (r1, r2, r3, r4, r5, r6) := h
 clear h
 replace H := Option.bind_eq_some_iff.mp H
 obtain ⟨⟨t267, t268, t269, t270, t273, t276, t277, t278⟩, A20, H⟩ := H
 replace H : (if t276 = true then (if t267 = 3 then (none) else (some (t267, t268, t269, t270, t273, true))) else (some (0, 0, 0, ([] : List (S87)), ([] : List (S39)), false))) = some (r1, r2, r3, r4, r5, r6) := H
 have A2 := Aside0.mk A20
 clear A20
 by_cases c3 : t276 = true
 ·
  subst c3
  have H1 : (if t267 = 3 then (none) else (some (t267, t268, t269, t270, t273, true))) = some (r1, r2, r3, r4, r5, r6) := by rw [if_pos rfl] at H; exact H
  clear H
  have H := H1
  clear H1
  by_cases c4 : t267 = 3
  ·
   rw [if_pos c4] at H
   exact absurd H (by simp)
  rw [if_neg c4] at H
  have c4b0 : (t267 == 3) = false := beq_eq_false_iff_ne.mpr c4
  have c4b1 : (t267 != 3) = true := bne_iff_ne.mpr c4
  simp only [Option.some.injEq, Prod.mk.injEq] at H
  obtain ⟨rfl, rfl, rfl, rfl, rfl, rfl⟩ := H
  go_enter Tryd.func19, Tryd.ntmps19
  go_wp2_with (first | ((with_reducible refine gate_dst (N := 2) rfl ?_); (try (refine gate_guard (by rfl) ?_; dsimp only)); refine box_event ?hg (N := 2) ?hd (cs := #[.int .i64 0, .int .i64 0, .int .i64 0, .slice none 0 0, .slice none 0 0]) (t := 39) ?hr ?_; (case hd => rfl); (case hg => rfl); (case hr => first | (go_simp; done) | (go_simp; rfl)); intro gb265 hg w5 hbox hb; have n0_ := Aside0.mk (below_step (by repeat (first | (with_reducible first | exact HB.out | apply below_alloc | apply pw_below_drewN | apply below_drew1) | exact HB.out)) hb); have n1_ := Aside0.mk (hbox); have n2_ := Aside0.mk ((by rw [hg]; exact (below_size (by repeat (first | (with_reducible first | exact HB.out | apply below_alloc | apply pw_below_drewN | apply below_drew1) | exact HB.out))) : w.heap.size ≤ gb265)); have n3_ := Aside0.mk ((by rw [hg]; exact (below_size (by repeat (first | (with_reducible first | exact HB.out | apply below_alloc | apply pw_below_drewN | apply below_drew1) | exact HB.out))) : w.heap.size ≤ gb265)); clear HB; have HB := n0_; have BK265 := n1_; have GW265 := n2_; have GE265 := n3_; clear n0_ n1_ n2_ n3_; clear hb hbox hg) | ((with_reducible refine gate_dst (N := 4) rfl ?_); (try (refine gate_guard (by rfl) ?_; dsimp only)); refine box_event ?hg (N := 4) ?hd (cs := #[.string (⟨#[]⟩ : ByteArray), .int .i64 0]) (t := 69) ?hr ?_; (case hd => rfl); (case hg => rfl); (case hr => first | (go_simp; done) | (go_simp; rfl)); intro gb266 hg w6 hbox hb; have n0_ := Aside0.mk (blk_below (g := gb265) (o := .cells #[.int .i64 0, .int .i64 0, .int .i64 0, .slice none 0 0, .slice none 0 0] 39 (0, 0)) (by (with_reducible repeat (first | refine blk_drewN ?_ _ | refine blk_drew ?_ | refine blk_alloc ?_ _)); exact BK265.out) hb); have n1_ := Aside0.mk (below_step (by repeat (first | (with_reducible first | exact HB.out | apply below_alloc | apply pw_below_drewN | apply below_drew1 | refine below_set ?_ GE265.out) | exact HB.out)) hb); have n2_ := Aside0.mk ((by rw [hg]; exact (below_size (by repeat (first | (with_reducible first | exact HB.out | apply below_alloc | apply pw_below_drewN | apply below_drew1 | refine below_set ?_ GE265.out) | exact HB.out))) : w.heap.size ≤ gb266)); have n3_ := Aside0.mk ((by rw [hg]; exact (below_size (by repeat (first | (with_reducible first | exact HB.out | apply below_alloc | apply pw_below_drewN | apply below_drew1 | refine below_set ?_ GE265.out) | exact HB.out))) : w.heap.size ≤ gb266)); have n4_ := Aside0.mk ((by rw [hg]; exact Nat.ne_of_lt (blk_lt (g := gb265) (o := .cells #[.int .i64 0, .int .i64 0, .int .i64 0, .slice none 0 0, .slice none 0 0] 39 (0, 0)) (by (with_reducible repeat (first | refine blk_drewN ?_ _ | refine blk_drew ?_ | refine blk_alloc ?_ _)); exact BK265.out)) : gb265 ≠ gb266)); have n5_ := Aside0.mk ((by rw [hg]; exact Nat.ne_of_gt (blk_lt (g := gb265) (o := .cells #[.int .i64 0, .int .i64 0, .int .i64 0, .slice none 0 0, .slice none 0 0] 39 (0, 0)) (by (with_reducible repeat (first | refine blk_drewN ?_ _ | refine blk_drew ?_ | refine blk_alloc ?_ _)); exact BK265.out)) : gb266 ≠ gb265)); have n6_ := Aside0.mk (IsS69.of_blk (⟨#[]⟩ : ByteArray) 0 hbox (by rw [hg]; exact (below_size (by repeat (first | (with_reducible first | exact HB.out | apply below_alloc | apply pw_below_drewN | apply below_drew1 | refine below_set ?_ GE265.out) | exact HB.out))) : w.heap.size ≤ gb266)); clear BK265; clear HB; have BK265 := n0_; have HB := n1_; have GW266 := n2_; have GE266 := n3_; have NB265_266 := n4_; have NB266_265 := n5_; have HI266 := n6_; clear n0_ n1_ n2_ n3_ n4_ n5_ n6_; clear hb hbox hg; obtain ⟨HGz7, hgz7⟩ := HI266.out; have hcz7_0 := cellS69_0 HGz7; have hcz7_1 := cellS69_1 HGz7; have hfz7_0 := blk_frozen HGz7 0; have hfz7_1 := blk_frozen HGz7 1; clear HGz7 hgz7) | ((with_reducible refine gate_callee (f := 33) rfl ?_); refine goesL_ (some 10) rfl rfl Tryd.func33 (by kernel_rfl) rfl #[.pointer (some ⟨gb266, 0, none⟩)] rfl (by (try simp only [List.map_toArray, List.map_cons, List.map_nil]); first | done | rfl | (simp only [List.length_drop, List.length_take]; rfl)) ?_; (with_reducible refine (spec_reader_value.calls k gb266 a0 0 t267 t268 t269 t270 t273 true t277 t278 w _ ?side1 ?side2 A2.out).mono ?_); (case side1 => repeat (first | (with_reducible first | exact HI266.out | apply IsS69.alloc | apply IsS69.drewN | apply IsS69.drew | apply IsS69.set_0 | apply IsS69.set_1 | refine IsS69.far ?_ NB266_265.out _) | exact HI266.out)); (case side2 => repeat (first | (with_reducible first | exact HB.out | apply below_alloc | apply pw_below_drewN | apply below_drew1 | refine below_set ?_ (IsS69.ge HI266.out) | refine below_set ?_ GE265.out) | exact HB.out)); rintro e w8 ⟨v271, v274, rfl, ho0, ho1, hi, hb, hk⟩; refine ⟨_, rfl, ?_⟩; have n0_ := Aside0.mk (KeepBut.blk hk (g' := gb265) (o := .cells #[.int .i64 0, .int .i64 0, .int .i64 0, .slice none 0 0, .slice none 0 0] 39 (0, 0)) (by (with_reducible repeat (first | refine blk_drewN ?_ _ | refine blk_drew ?_ | refine blk_alloc ?_ _)); refine blk_far ?_ NB265_266.out _; (with_reducible repeat (first | refine blk_drewN ?_ _ | refine blk_drew ?_ | refine blk_alloc ?_ _)); refine blk_far ?_ NB265_266.out _; (with_reducible repeat (first | refine blk_drewN ?_ _ | refine blk_drew ?_ | refine blk_alloc ?_ _)); exact BK265.out) NB265_266.out (by simp)); have n1_ := Aside0.mk (Kd.R_lower ho0 (below_size (by repeat (first | (with_reducible first | exact HB.out | apply below_alloc | apply pw_below_drewN | apply below_drew1 | refine below_set ?_ (IsS69.ge HI266.out) | refine below_set ?_ GE265.out) | exact HB.out)))); have n2_ := Aside0.mk (Kd.R_lower (Kd.R_newB ho1 (g := gb265) (o := .cells #[.int .i64 0, .int .i64 0, .int .i64 0, .slice none 0 0, .slice none 0 0] 39 (0, 0)) (by (with_reducible repeat (first | refine blk_drewN ?_ _ | refine blk_drew ?_ | refine blk_alloc ?_ _)); refine blk_far ?_ NB265_266.out _; (with_reducible repeat (first | refine blk_drewN ?_ _ | refine blk_drew ?_ | refine blk_alloc ?_ _)); refine blk_far ?_ NB265_266.out _; (with_reducible repeat (first | refine blk_drewN ?_ _ | refine blk_drew ?_ | refine blk_alloc ?_ _)); exact BK265.out)) (below_size (by repeat (first | (with_reducible first | exact HB.out | apply below_alloc | apply pw_below_drewN | apply below_drew1 | refine below_set ?_ (IsS69.ge HI266.out) | refine below_set ?_ GE265.out) | exact HB.out)))); have n3_ := Aside0.mk (hb); have n4_ := Aside0.mk (hi); clear BK265; clear HB; clear HI266; have BK265 := n0_; have HO272 := n1_; have HO275 := n2_; have HB := n3_; have HI266 := n4_; clear n0_ n1_ n2_ n3_ n4_; (try clear hb); (try clear hb2); (try clear hk); (try clear hi); (try clear ho0); (try clear ho1)) | ((with_reducible refine gate_dst (N := 5) rfl ?_); (try (refine gate_guard (by rfl) ?_; dsimp only)); refine box_event ?hg (N := 5) ?hd (cs := #[.int .i64 0, .int .i64 0, .int .i64 0, .slice none 0 0, .slice none 0 0]) (t := 39) ?hr ?_; (case hd => rfl); (case hg => rfl); (case hr => first | (go_simp; done) | (go_simp; rfl)); intro gb279 hg w9 hbox hb; have n0_ := Aside0.mk (Kd.R_below (by (with_reducible repeat (first | apply Kd.R_alloc | apply Kd.R_drewN | apply Kd.R_drew)); exact HO272.out) hb); have n1_ := Aside0.mk (Kd.R_below (Kd.R_elderB (by (with_reducible repeat (first | apply Kd.R_alloc | apply Kd.R_drewN | apply Kd.R_drew)); exact HO275.out) gb279 (Nat.le_of_eq hg.symm)) hb); have n2_ := Aside0.mk (blk_below (g := gb265) (o := .cells #[.int .i64 0, .int .i64 0, .int .i64 0, .slice none 0 0, .slice none 0 0] 39 (0, 0)) (by (with_reducible repeat (first | refine blk_drewN ?_ _ | refine blk_drew ?_ | refine blk_alloc ?_ _)); exact BK265.out) hb); have n3_ := Aside0.mk (IsS69.below (by repeat (first | (with_reducible first | exact HI266.out | apply IsS69.alloc | apply IsS69.drewN | apply IsS69.drew | apply IsS69.set_0 | apply IsS69.set_1 | refine IsS69.far ?_ NB266_265.out _) | exact HI266.out)) hb); have n4_ := Aside0.mk (below_step (by repeat (first | (with_reducible first | exact HB.out | apply below_alloc | apply pw_below_drewN | apply below_drew1 | refine below_set ?_ (IsS69.ge HI266.out) | refine below_set ?_ GE265.out) | exact HB.out)) hb); have n5_ := Aside0.mk (hbox); have n6_ := Aside0.mk ((by rw [hg]; exact (below_size (by repeat (first | (with_reducible first | exact HB.out | apply below_alloc | apply pw_below_drewN | apply below_drew1 | refine below_set ?_ (IsS69.ge HI266.out) | refine below_set ?_ GE265.out) | exact HB.out))) : w.heap.size ≤ gb279)); have n7_ := Aside0.mk ((by rw [hg]; exact (below_size (by repeat (first | (with_reducible first | exact HB.out | apply below_alloc | apply pw_below_drewN | apply below_drew1 | refine below_set ?_ (IsS69.ge HI266.out) | refine below_set ?_ GE265.out) | exact HB.out))) : w.heap.size ≤ gb279)); have n8_ := Aside0.mk ((by rw [hg]; exact Nat.ne_of_lt (blk_lt (g := gb265) (o := .cells #[.int .i64 0, .int .i64 0, .int .i64 0, .slice none 0 0, .slice none 0 0] 39 (0, 0)) (by (with_reducible repeat (first | refine blk_drewN ?_ _ | refine blk_drew ?_ | refine blk_alloc ?_ _)); exact BK265.out)) : gb265 ≠ gb279)); have n9_ := Aside0.mk ((by rw [hg]; exact Nat.ne_of_gt (blk_lt (g := gb265) (o := .cells #[.int .i64 0, .int .i64 0, .int .i64 0, .slice none 0 0, .slice none 0 0] 39 (0, 0)) (by (with_reducible repeat (first | refine blk_drewN ?_ _ | refine blk_drew ?_ | refine blk_alloc ?_ _)); exact BK265.out)) : gb279 ≠ gb265)); have n10_ := Aside0.mk ((by rw [hg]; exact Nat.ne_of_lt (IsS69.lt (show IsS69 w _ gb266 t277 t278 from by repeat (first | (with_reducible first | exact HI266.out | apply IsS69.alloc | apply IsS69.drewN | apply IsS69.drew | apply IsS69.set_0 | apply IsS69.set_1 | refine IsS69.far ?_ NB266_265.out _) | exact HI266.out))) : gb266 ≠ gb279)); have n11_ := Aside0.mk ((by rw [hg]; exact Nat.ne_of_gt (IsS69.lt (show IsS69 w _ gb266 t277 t278 from by repeat (first | (with_reducible first | exact HI266.out | apply IsS69.alloc | apply IsS69.drewN | apply IsS69.drew | apply IsS69.set_0 | apply IsS69.set_1 | refine IsS69.far ?_ NB266_265.out _) | exact HI266.out))) : gb279 ≠ gb266)); clear HO272; clear HO275; clear BK265; clear HI266; clear HB; have HO272 := n0_; have HO275 := n1_; have BK265 := n2_; have HI266 := n3_; have HB := n4_; have BK279 := n5_; have GW279 := n6_; have GE279 := n7_; have NB265_279 := n8_; have NB279_265 := n9_; have NB266_279 := n10_; have NB279_266 := n11_; clear n0_ n1_ n2_ n3_ n4_ n5_ n6_ n7_ n8_ n9_ n10_ n11_; clear hb hbox hg; have hnb10 := NB279_265.out; have hnc10 := NB265_279.out; have hnb11 := NB279_266.out; have hnc11 := NB266_279.out; have hcz12_0 : w9.cell? ⟨gb279, 0, none⟩ = some (.int .i64 0) := (blk_cell BK279.out 0).trans rfl; have hcz12_1 : w9.cell? ⟨gb279, 1, none⟩ = some (.int .i64 0) := (blk_cell BK279.out 1).trans rfl; have hcz12_2 : w9.cell? ⟨gb279, 2, none⟩ = some (.int .i64 0) := (blk_cell BK279.out 2).trans rfl; have hcz12_3 : w9.cell? ⟨gb279, 3, none⟩ = some (.slice none 0 0) := (blk_cell BK279.out 3).trans rfl; have hcz12_4 : w9.cell? ⟨gb279, 4, none⟩ = some (.slice none 0 0) := (blk_cell BK279.out 4).trans rfl; have hfz12_0 := blk_frozen BK279.out 0; have hfz12_1 := blk_frozen BK279.out 1; have hfz12_2 := blk_frozen BK279.out 2; have hfz12_3 := blk_frozen BK279.out 3; have hfz12_4 := blk_frozen BK279.out 4; obtain ⟨Ao13, co13, eo13⟩ := Kd.R_slice HO272.out; subst eo13; obtain ⟨Ao14, co14, eo14⟩ := Kd.R_slice HO275.out; subst eo14; have hnb15 := NB265_266.out; have hnc15 := NB266_265.out; have hcz16_0 : w9.cell? ⟨gb265, 0, none⟩ = some (.int .i64 0) := (blk_cell BK265.out 0).trans rfl; have hcz16_1 : w9.cell? ⟨gb265, 1, none⟩ = some (.int .i64 0) := (blk_cell BK265.out 1).trans rfl; have hcz16_2 : w9.cell? ⟨gb265, 2, none⟩ = some (.int .i64 0) := (blk_cell BK265.out 2).trans rfl; have hcz16_3 : w9.cell? ⟨gb265, 3, none⟩ = some (.slice none 0 0) := (blk_cell BK265.out 3).trans rfl; have hcz16_4 : w9.cell? ⟨gb265, 4, none⟩ = some (.slice none 0 0) := (blk_cell BK265.out 4).trans rfl; have hfz16_0 := blk_frozen BK265.out 0; have hfz16_1 := blk_frozen BK265.out 1; have hfz16_2 := blk_frozen BK265.out 2; have hfz16_3 := blk_frozen BK265.out 3; have hfz16_4 := blk_frozen BK265.out 4))
  refine bodyPost_ret (results_ct rfl _ _ gb265 39 #[.int .i64 t267, .int .i64 t268, .int .i64 t269, .slice Ao13 t270.length co13, .slice Ao14 t273.length co14] (0, 0) _ rfl (by (with_reducible repeat (first | refine blk_drewN ?_ _ | refine blk_drew ?_ | refine blk_alloc ?_ _)); refine blk_put (cs := #[.int .i64 t267, .int .i64 t268, .int .i64 t269, .slice Ao13 t270.length co13, .slice none 0 0]) ?_ 4 _ rfl; (with_reducible repeat (first | refine blk_drewN ?_ _ | refine blk_drew ?_ | refine blk_alloc ?_ _)); refine blk_put (cs := #[.int .i64 t267, .int .i64 t268, .int .i64 t269, .slice none 0 0, .slice none 0 0]) ?_ 3 _ rfl; (with_reducible repeat (first | refine blk_drewN ?_ _ | refine blk_drew ?_ | refine blk_alloc ?_ _)); refine blk_put (cs := #[.int .i64 t267, .int .i64 t268, .int .i64 0, .slice none 0 0, .slice none 0 0]) ?_ 2 _ rfl; (with_reducible repeat (first | refine blk_drewN ?_ _ | refine blk_drew ?_ | refine blk_alloc ?_ _)); refine blk_put (cs := #[.int .i64 t267, .int .i64 0, .int .i64 0, .slice none 0 0, .slice none 0 0]) ?_ 1 _ rfl; (with_reducible repeat (first | refine blk_drewN ?_ _ | refine blk_drew ?_ | refine blk_alloc ?_ _)); refine blk_put (cs := #[.int .i64 0, .int .i64 0, .int .i64 0, .slice none 0 0, .slice none 0 0]) ?_ 0 _ rfl; (with_reducible repeat (first | refine blk_drewN ?_ _ | refine blk_drew ?_ | refine blk_alloc ?_ _)); refine blk_far ?_ NB265_279.out _; (with_reducible repeat (first | refine blk_drewN ?_ _ | refine blk_drew ?_ | refine blk_alloc ?_ _)); refine blk_far ?_ NB265_279.out _; (with_reducible repeat (first | refine blk_drewN ?_ _ | refine blk_drew ?_ | refine blk_alloc ?_ _)); refine blk_far ?_ NB265_279.out _; (with_reducible repeat (first | refine blk_drewN ?_ _ | refine blk_drew ?_ | refine blk_alloc ?_ _)); refine blk_far ?_ NB265_279.out _; (with_reducible repeat (first | refine blk_drewN ?_ _ | refine blk_drew ?_ | refine blk_alloc ?_ _)); refine blk_far ?_ NB265_279.out _; (with_reducible repeat (first | refine blk_drewN ?_ _ | refine blk_drew ?_ | refine blk_alloc ?_ _)); exact BK265.out) Tryd.underlying39 rfl (by kernel_rfl)) rfl ?_
  exact ⟨_, _, by first | rfl | (simp [errX_none, errX_some] <;> rfl) | (simp [*, errX_none, errX_some] <;> rfl), by (with_reducible repeat (first | apply Kd.R_alloc | apply Kd.R_drewN | apply Kd.R_drew)); exact Kd.R_mono (Kd.R_far (p := ⟨gb265, 4, none⟩) (Kd.R_far (p := ⟨gb265, 3, none⟩) (Kd.R_far (p := ⟨gb265, 2, none⟩) (Kd.R_far (p := ⟨gb265, 1, none⟩) (Kd.R_far (p := ⟨gb265, 0, none⟩) (Kd.R_far (p := ⟨gb279, 4, none⟩) (Kd.R_far (p := ⟨gb279, 3, none⟩) (Kd.R_far (p := ⟨gb279, 2, none⟩) (Kd.R_far (p := ⟨gb279, 1, none⟩) (Kd.R_far (p := ⟨gb279, 0, none⟩) (Kd.R_types (Kd.R_types HO272.out BK279.out (by decide)) BK265.out (by decide)) (fun _ hk => hk.1.2) (.int .i64 t267)) (fun _ hk => hk.1.2) (.int .i64 t268)) (fun _ hk => hk.1.2) (.int .i64 t269)) (fun _ hk => hk.1.2) (.slice Ao13 t270.length co13)) (fun _ hk => hk.1.2) (.slice Ao14 t273.length co14)) (fun _ hk => hk.2) (.int .i64 t267)) (fun _ hk => hk.2) (.int .i64 t268)) (fun _ hk => hk.2) (.int .i64 t269)) (fun _ hk => hk.2) (.slice Ao13 t270.length co13)) (fun _ hk => hk.2) (.slice Ao14 t273.length co14)) (fun _ hk => trivial), by (with_reducible repeat (first | apply Kd.R_alloc | apply Kd.R_drewN | apply Kd.R_drew)); exact Kd.R_mono (Kd.R_far (p := ⟨gb265, 4, none⟩) (Kd.R_far (p := ⟨gb265, 3, none⟩) (Kd.R_far (p := ⟨gb265, 2, none⟩) (Kd.R_far (p := ⟨gb265, 1, none⟩) (Kd.R_far (p := ⟨gb265, 0, none⟩) (Kd.R_far (p := ⟨gb279, 4, none⟩) (Kd.R_far (p := ⟨gb279, 3, none⟩) (Kd.R_far (p := ⟨gb279, 2, none⟩) (Kd.R_far (p := ⟨gb279, 1, none⟩) (Kd.R_far (p := ⟨gb279, 0, none⟩) (Kd.R_mono (Kd.R_mono HO275.out (fun k_ hk => (⟨hk, hk.2⟩ : _ ∧ k_ ≠ gb279))) (fun k_ hk => (⟨hk, hk.1.1.2⟩ : _ ∧ k_ ≠ gb265))) (fun _ hk => hk.1.2) (.int .i64 t267)) (fun _ hk => hk.1.2) (.int .i64 t268)) (fun _ hk => hk.1.2) (.int .i64 t269)) (fun _ hk => hk.1.2) (.slice Ao13 t270.length co13)) (fun _ hk => hk.1.2) (.slice Ao14 t273.length co14)) (fun _ hk => hk.2) (.int .i64 t267)) (fun _ hk => hk.2) (.int .i64 t268)) (fun _ hk => hk.2) (.int .i64 t269)) (fun _ hk => hk.2) (.slice Ao13 t270.length co13)) (fun _ hk => hk.2) (.slice Ao14 t273.length co14)) (fun _ hk => hk.1.1.1.1), by repeat (first | (with_reducible first | exact HB.out | apply below_alloc | apply pw_below_drewN | apply below_drew1 | refine below_set ?_ (IsS69.ge HI266.out) | refine below_set ?_ GE265.out | refine below_set ?_ GE279.out) | exact HB.out)⟩
 replace c3 := Bool.eq_false_iff.mpr c3
 subst c3
 have H1 : (some (0, 0, 0, ([] : List (S87)), ([] : List (S39)), false)) = some (r1, r2, r3, r4, r5, r6) := by rw [if_neg (show ¬ (false = true) by decide)] at H; exact H
 clear H
 have H := H1
 clear H1
 simp only [Option.some.injEq, Prod.mk.injEq] at H
 obtain ⟨rfl, rfl, rfl, rfl, rfl, rfl⟩ := H
 go_enter Tryd.func19, Tryd.ntmps19
 go_wp2_with (first | ((with_reducible refine gate_dst (N := 2) rfl ?_); (try (refine gate_guard (by rfl) ?_; dsimp only)); refine box_event ?hg (N := 2) ?hd (cs := #[.int .i64 0, .int .i64 0, .int .i64 0, .slice none 0 0, .slice none 0 0]) (t := 39) ?hr ?_; (case hd => rfl); (case hg => rfl); (case hr => first | (go_simp; done) | (go_simp; rfl)); intro gb265 hg w17 hbox hb; have n0_ := Aside0.mk (below_step (by repeat (first | (with_reducible first | exact HB.out | apply below_alloc | apply pw_below_drewN | apply below_drew1) | exact HB.out)) hb); have n1_ := Aside0.mk (hbox); have n2_ := Aside0.mk ((by rw [hg]; exact (below_size (by repeat (first | (with_reducible first | exact HB.out | apply below_alloc | apply pw_below_drewN | apply below_drew1) | exact HB.out))) : w.heap.size ≤ gb265)); have n3_ := Aside0.mk ((by rw [hg]; exact (below_size (by repeat (first | (with_reducible first | exact HB.out | apply below_alloc | apply pw_below_drewN | apply below_drew1) | exact HB.out))) : w.heap.size ≤ gb265)); clear HB; have HB := n0_; have BK265 := n1_; have GW265 := n2_; have GE265 := n3_; clear n0_ n1_ n2_ n3_; clear hb hbox hg) | ((with_reducible refine gate_dst (N := 4) rfl ?_); (try (refine gate_guard (by rfl) ?_; dsimp only)); refine box_event ?hg (N := 4) ?hd (cs := #[.string (⟨#[]⟩ : ByteArray), .int .i64 0]) (t := 69) ?hr ?_; (case hd => rfl); (case hg => rfl); (case hr => first | (go_simp; done) | (go_simp; rfl)); intro gb266 hg w18 hbox hb; have n0_ := Aside0.mk (blk_below (g := gb265) (o := .cells #[.int .i64 0, .int .i64 0, .int .i64 0, .slice none 0 0, .slice none 0 0] 39 (0, 0)) (by (with_reducible repeat (first | refine blk_drewN ?_ _ | refine blk_drew ?_ | refine blk_alloc ?_ _)); exact BK265.out) hb); have n1_ := Aside0.mk (below_step (by repeat (first | (with_reducible first | exact HB.out | apply below_alloc | apply pw_below_drewN | apply below_drew1 | refine below_set ?_ GE265.out) | exact HB.out)) hb); have n2_ := Aside0.mk ((by rw [hg]; exact (below_size (by repeat (first | (with_reducible first | exact HB.out | apply below_alloc | apply pw_below_drewN | apply below_drew1 | refine below_set ?_ GE265.out) | exact HB.out))) : w.heap.size ≤ gb266)); have n3_ := Aside0.mk ((by rw [hg]; exact (below_size (by repeat (first | (with_reducible first | exact HB.out | apply below_alloc | apply pw_below_drewN | apply below_drew1 | refine below_set ?_ GE265.out) | exact HB.out))) : w.heap.size ≤ gb266)); have n4_ := Aside0.mk ((by rw [hg]; exact Nat.ne_of_lt (blk_lt (g := gb265) (o := .cells #[.int .i64 0, .int .i64 0, .int .i64 0, .slice none 0 0, .slice none 0 0] 39 (0, 0)) (by (with_reducible repeat (first | refine blk_drewN ?_ _ | refine blk_drew ?_ | refine blk_alloc ?_ _)); exact BK265.out)) : gb265 ≠ gb266)); have n5_ := Aside0.mk ((by rw [hg]; exact Nat.ne_of_gt (blk_lt (g := gb265) (o := .cells #[.int .i64 0, .int .i64 0, .int .i64 0, .slice none 0 0, .slice none 0 0] 39 (0, 0)) (by (with_reducible repeat (first | refine blk_drewN ?_ _ | refine blk_drew ?_ | refine blk_alloc ?_ _)); exact BK265.out)) : gb266 ≠ gb265)); have n6_ := Aside0.mk (IsS69.of_blk (⟨#[]⟩ : ByteArray) 0 hbox (by rw [hg]; exact (below_size (by repeat (first | (with_reducible first | exact HB.out | apply below_alloc | apply pw_below_drewN | apply below_drew1 | refine below_set ?_ GE265.out) | exact HB.out))) : w.heap.size ≤ gb266)); clear BK265; clear HB; have BK265 := n0_; have HB := n1_; have GW266 := n2_; have GE266 := n3_; have NB265_266 := n4_; have NB266_265 := n5_; have HI266 := n6_; clear n0_ n1_ n2_ n3_ n4_ n5_ n6_; clear hb hbox hg; obtain ⟨HGz19, hgz19⟩ := HI266.out; have hcz19_0 := cellS69_0 HGz19; have hcz19_1 := cellS69_1 HGz19; have hfz19_0 := blk_frozen HGz19 0; have hfz19_1 := blk_frozen HGz19 1; clear HGz19 hgz19) | ((with_reducible refine gate_callee (f := 33) rfl ?_); refine goesL_ (some 10) rfl rfl Tryd.func33 (by kernel_rfl) rfl #[.pointer (some ⟨gb266, 0, none⟩)] rfl (by (try simp only [List.map_toArray, List.map_cons, List.map_nil]); first | done | rfl | (simp only [List.length_drop, List.length_take]; rfl)) ?_; (with_reducible refine (spec_reader_value.calls k gb266 a0 0 t267 t268 t269 t270 t273 false t277 t278 w _ ?side1 ?side2 A2.out).mono ?_); (case side1 => repeat (first | (with_reducible first | exact HI266.out | apply IsS69.alloc | apply IsS69.drewN | apply IsS69.drew | apply IsS69.set_0 | apply IsS69.set_1 | refine IsS69.far ?_ NB266_265.out _) | exact HI266.out)); (case side2 => repeat (first | (with_reducible first | exact HB.out | apply below_alloc | apply pw_below_drewN | apply below_drew1 | refine below_set ?_ (IsS69.ge HI266.out) | refine below_set ?_ GE265.out) | exact HB.out)); rintro e w20 ⟨v271, v274, rfl, ho0, ho1, hi, hb, hk⟩; refine ⟨_, rfl, ?_⟩; have n0_ := Aside0.mk (KeepBut.blk hk (g' := gb265) (o := .cells #[.int .i64 0, .int .i64 0, .int .i64 0, .slice none 0 0, .slice none 0 0] 39 (0, 0)) (by (with_reducible repeat (first | refine blk_drewN ?_ _ | refine blk_drew ?_ | refine blk_alloc ?_ _)); refine blk_far ?_ NB265_266.out _; (with_reducible repeat (first | refine blk_drewN ?_ _ | refine blk_drew ?_ | refine blk_alloc ?_ _)); refine blk_far ?_ NB265_266.out _; (with_reducible repeat (first | refine blk_drewN ?_ _ | refine blk_drew ?_ | refine blk_alloc ?_ _)); exact BK265.out) NB265_266.out (by simp)); have n1_ := Aside0.mk (Kd.R_lower ho0 (below_size (by repeat (first | (with_reducible first | exact HB.out | apply below_alloc | apply pw_below_drewN | apply below_drew1 | refine below_set ?_ (IsS69.ge HI266.out) | refine below_set ?_ GE265.out) | exact HB.out)))); have n2_ := Aside0.mk (Kd.R_lower (Kd.R_newB ho1 (g := gb265) (o := .cells #[.int .i64 0, .int .i64 0, .int .i64 0, .slice none 0 0, .slice none 0 0] 39 (0, 0)) (by (with_reducible repeat (first | refine blk_drewN ?_ _ | refine blk_drew ?_ | refine blk_alloc ?_ _)); refine blk_far ?_ NB265_266.out _; (with_reducible repeat (first | refine blk_drewN ?_ _ | refine blk_drew ?_ | refine blk_alloc ?_ _)); refine blk_far ?_ NB265_266.out _; (with_reducible repeat (first | refine blk_drewN ?_ _ | refine blk_drew ?_ | refine blk_alloc ?_ _)); exact BK265.out)) (below_size (by repeat (first | (with_reducible first | exact HB.out | apply below_alloc | apply pw_below_drewN | apply below_drew1 | refine below_set ?_ (IsS69.ge HI266.out) | refine below_set ?_ GE265.out) | exact HB.out)))); have n3_ := Aside0.mk (hb); have n4_ := Aside0.mk (hi); clear BK265; clear HB; clear HI266; have BK265 := n0_; have HO272 := n1_; have HO275 := n2_; have HB := n3_; have HI266 := n4_; clear n0_ n1_ n2_ n3_ n4_; (try clear hb); (try clear hb2); (try clear hk); (try clear hi); (try clear ho0); (try clear ho1)) | ((with_reducible refine gate_dst (N := 5) rfl ?_); (try (refine gate_guard (by rfl) ?_; dsimp only)); refine box_event ?hg (N := 5) ?hd (cs := #[.int .i64 0, .int .i64 0, .int .i64 0, .slice none 0 0, .slice none 0 0]) (t := 39) ?hr ?_; (case hd => rfl); (case hg => rfl); (case hr => first | (go_simp; done) | (go_simp; rfl)); intro gb279 hg w21 hbox hb; have n0_ := Aside0.mk (Kd.R_below (by (with_reducible repeat (first | apply Kd.R_alloc | apply Kd.R_drewN | apply Kd.R_drew)); exact HO272.out) hb); have n1_ := Aside0.mk (Kd.R_below (Kd.R_elderB (by (with_reducible repeat (first | apply Kd.R_alloc | apply Kd.R_drewN | apply Kd.R_drew)); exact HO275.out) gb279 (Nat.le_of_eq hg.symm)) hb); have n2_ := Aside0.mk (blk_below (g := gb265) (o := .cells #[.int .i64 0, .int .i64 0, .int .i64 0, .slice none 0 0, .slice none 0 0] 39 (0, 0)) (by (with_reducible repeat (first | refine blk_drewN ?_ _ | refine blk_drew ?_ | refine blk_alloc ?_ _)); exact BK265.out) hb); have n3_ := Aside0.mk (IsS69.below (by repeat (first | (with_reducible first | exact HI266.out | apply IsS69.alloc | apply IsS69.drewN | apply IsS69.drew | apply IsS69.set_0 | apply IsS69.set_1 | refine IsS69.far ?_ NB266_265.out _) | exact HI266.out)) hb); have n4_ := Aside0.mk (below_step (by repeat (first | (with_reducible first | exact HB.out | apply below_alloc | apply pw_below_drewN | apply below_drew1 | refine below_set ?_ (IsS69.ge HI266.out) | refine below_set ?_ GE265.out) | exact HB.out)) hb); have n5_ := Aside0.mk (hbox); have n6_ := Aside0.mk ((by rw [hg]; exact (below_size (by repeat (first | (with_reducible first | exact HB.out | apply below_alloc | apply pw_below_drewN | apply below_drew1 | refine below_set ?_ (IsS69.ge HI266.out) | refine below_set ?_ GE265.out) | exact HB.out))) : w.heap.size ≤ gb279)); have n7_ := Aside0.mk ((by rw [hg]; exact (below_size (by repeat (first | (with_reducible first | exact HB.out | apply below_alloc | apply pw_below_drewN | apply below_drew1 | refine below_set ?_ (IsS69.ge HI266.out) | refine below_set ?_ GE265.out) | exact HB.out))) : w.heap.size ≤ gb279)); have n8_ := Aside0.mk ((by rw [hg]; exact Nat.ne_of_lt (blk_lt (g := gb265) (o := .cells #[.int .i64 0, .int .i64 0, .int .i64 0, .slice none 0 0, .slice none 0 0] 39 (0, 0)) (by (with_reducible repeat (first | refine blk_drewN ?_ _ | refine blk_drew ?_ | refine blk_alloc ?_ _)); exact BK265.out)) : gb265 ≠ gb279)); have n9_ := Aside0.mk ((by rw [hg]; exact Nat.ne_of_gt (blk_lt (g := gb265) (o := .cells #[.int .i64 0, .int .i64 0, .int .i64 0, .slice none 0 0, .slice none 0 0] 39 (0, 0)) (by (with_reducible repeat (first | refine blk_drewN ?_ _ | refine blk_drew ?_ | refine blk_alloc ?_ _)); exact BK265.out)) : gb279 ≠ gb265)); have n10_ := Aside0.mk ((by rw [hg]; exact Nat.ne_of_lt (IsS69.lt (show IsS69 w _ gb266 t277 t278 from by repeat (first | (with_reducible first | exact HI266.out | apply IsS69.alloc | apply IsS69.drewN | apply IsS69.drew | apply IsS69.set_0 | apply IsS69.set_1 | refine IsS69.far ?_ NB266_265.out _) | exact HI266.out))) : gb266 ≠ gb279)); have n11_ := Aside0.mk ((by rw [hg]; exact Nat.ne_of_gt (IsS69.lt (show IsS69 w _ gb266 t277 t278 from by repeat (first | (with_reducible first | exact HI266.out | apply IsS69.alloc | apply IsS69.drewN | apply IsS69.drew | apply IsS69.set_0 | apply IsS69.set_1 | refine IsS69.far ?_ NB266_265.out _) | exact HI266.out))) : gb279 ≠ gb266)); clear HO272; clear HO275; clear BK265; clear HI266; clear HB; have HO272 := n0_; have HO275 := n1_; have BK265 := n2_; have HI266 := n3_; have HB := n4_; have BK279 := n5_; have GW279 := n6_; have GE279 := n7_; have NB265_279 := n8_; have NB279_265 := n9_; have NB266_279 := n10_; have NB279_266 := n11_; clear n0_ n1_ n2_ n3_ n4_ n5_ n6_ n7_ n8_ n9_ n10_ n11_; clear hb hbox hg; have hnb22 := NB279_265.out; have hnc22 := NB265_279.out; have hnb23 := NB279_266.out; have hnc23 := NB266_279.out; have hcz24_0 : w21.cell? ⟨gb279, 0, none⟩ = some (.int .i64 0) := (blk_cell BK279.out 0).trans rfl; have hcz24_1 : w21.cell? ⟨gb279, 1, none⟩ = some (.int .i64 0) := (blk_cell BK279.out 1).trans rfl; have hcz24_2 : w21.cell? ⟨gb279, 2, none⟩ = some (.int .i64 0) := (blk_cell BK279.out 2).trans rfl; have hcz24_3 : w21.cell? ⟨gb279, 3, none⟩ = some (.slice none 0 0) := (blk_cell BK279.out 3).trans rfl; have hcz24_4 : w21.cell? ⟨gb279, 4, none⟩ = some (.slice none 0 0) := (blk_cell BK279.out 4).trans rfl; have hfz24_0 := blk_frozen BK279.out 0; have hfz24_1 := blk_frozen BK279.out 1; have hfz24_2 := blk_frozen BK279.out 2; have hfz24_3 := blk_frozen BK279.out 3; have hfz24_4 := blk_frozen BK279.out 4; obtain ⟨Ao25, co25, eo25⟩ := Kd.R_slice HO272.out; subst eo25; obtain ⟨Ao26, co26, eo26⟩ := Kd.R_slice HO275.out; subst eo26; have hnb27 := NB265_266.out; have hnc27 := NB266_265.out; have hcz28_0 : w21.cell? ⟨gb265, 0, none⟩ = some (.int .i64 0) := (blk_cell BK265.out 0).trans rfl; have hcz28_1 : w21.cell? ⟨gb265, 1, none⟩ = some (.int .i64 0) := (blk_cell BK265.out 1).trans rfl; have hcz28_2 : w21.cell? ⟨gb265, 2, none⟩ = some (.int .i64 0) := (blk_cell BK265.out 2).trans rfl; have hcz28_3 : w21.cell? ⟨gb265, 3, none⟩ = some (.slice none 0 0) := (blk_cell BK265.out 3).trans rfl; have hcz28_4 : w21.cell? ⟨gb265, 4, none⟩ = some (.slice none 0 0) := (blk_cell BK265.out 4).trans rfl; have hfz28_0 := blk_frozen BK265.out 0; have hfz28_1 := blk_frozen BK265.out 1; have hfz28_2 := blk_frozen BK265.out 2; have hfz28_3 := blk_frozen BK265.out 3; have hfz28_4 := blk_frozen BK265.out 4))
 refine bodyPost_ret (results_ct rfl _ _ gb265 39 #[.int .i64 0, .int .i64 0, .int .i64 0, .slice none 0 0, .slice none 0 0] (0, 0) _ rfl (by (with_reducible repeat (first | refine blk_drewN ?_ _ | refine blk_drew ?_ | refine blk_alloc ?_ _)); refine blk_put (cs := #[.int .i64 0, .int .i64 0, .int .i64 0, .slice none 0 0, .slice none 0 0]) ?_ 4 _ rfl; (with_reducible repeat (first | refine blk_drewN ?_ _ | refine blk_drew ?_ | refine blk_alloc ?_ _)); refine blk_put (cs := #[.int .i64 0, .int .i64 0, .int .i64 0, .slice none 0 0, .slice none 0 0]) ?_ 3 _ rfl; (with_reducible repeat (first | refine blk_drewN ?_ _ | refine blk_drew ?_ | refine blk_alloc ?_ _)); refine blk_put (cs := #[.int .i64 0, .int .i64 0, .int .i64 0, .slice none 0 0, .slice none 0 0]) ?_ 2 _ rfl; (with_reducible repeat (first | refine blk_drewN ?_ _ | refine blk_drew ?_ | refine blk_alloc ?_ _)); refine blk_put (cs := #[.int .i64 0, .int .i64 0, .int .i64 0, .slice none 0 0, .slice none 0 0]) ?_ 1 _ rfl; (with_reducible repeat (first | refine blk_drewN ?_ _ | refine blk_drew ?_ | refine blk_alloc ?_ _)); refine blk_put (cs := #[.int .i64 0, .int .i64 0, .int .i64 0, .slice none 0 0, .slice none 0 0]) ?_ 0 _ rfl; (with_reducible repeat (first | refine blk_drewN ?_ _ | refine blk_drew ?_ | refine blk_alloc ?_ _)); refine blk_far ?_ NB265_279.out _; (with_reducible repeat (first | refine blk_drewN ?_ _ | refine blk_drew ?_ | refine blk_alloc ?_ _)); refine blk_far ?_ NB265_279.out _; (with_reducible repeat (first | refine blk_drewN ?_ _ | refine blk_drew ?_ | refine blk_alloc ?_ _)); refine blk_far ?_ NB265_279.out _; (with_reducible repeat (first | refine blk_drewN ?_ _ | refine blk_drew ?_ | refine blk_alloc ?_ _)); refine blk_far ?_ NB265_279.out _; (with_reducible repeat (first | refine blk_drewN ?_ _ | refine blk_drew ?_ | refine blk_alloc ?_ _)); refine blk_far ?_ NB265_279.out _; (with_reducible repeat (first | refine blk_drewN ?_ _ | refine blk_drew ?_ | refine blk_alloc ?_ _)); exact BK265.out) Tryd.underlying39 rfl (by kernel_rfl)) rfl ?_
 exact ⟨_, _, by first | rfl | (simp [errX_none, errX_some] <;> rfl) | (simp [*, errX_none, errX_some] <;> rfl), by first | exact Kd.R_nil _ _ _ _ _ | exact Kd.N_nil _ _ _ _ _ | exact Kd.V_nil _ _ _ _ _ | exact Kd.Q_nil _ _ _ _ _ | exact Kd.S_nil _ _ _ _ _, by first | exact Kd.R_nil _ _ _ _ _ | exact Kd.N_nil _ _ _ _ _ | exact Kd.V_nil _ _ _ _ _ | exact Kd.Q_nil _ _ _ _ _ | exact Kd.S_nil _ _ _ _ _, by repeat (first | (with_reducible first | exact HB.out | apply below_alloc | apply pw_below_drewN | apply below_drew1 | refine below_set ?_ (IsS69.ge HI266.out) | refine below_set ?_ GE265.out | refine below_set ?_ GE279.out) | exact HB.out)⟩
def laws_behind.f (k : Nat) (a0 : ByteArray) : Option (ByteArray × Bool) := (spec_Begins.f k a0).bind fun bt280 => (if bt280.2.2.2.2.2 = true then (if 0 ≤ bt280.2.2.1 then (if bt280.2.2.1 ≤ (a0.size : Int) then (some (a0.extract (bt280.2.2.1 : Int).toNat a0.size, true)) else (none)) else (none)) else (some ((⟨#[]⟩ : ByteArray), false)))
set_option maxHeartbeats 8000000 in
set_option maxRecDepth 100000 in
theorem laws_behind.calls (k : Nat) (a0 : ByteArray) (r1 : ByteArray) (r2 : Bool) (w : World) (h : laws_behind.f k a0 = some (r1, r2)) :
    Calls Tryd.prog 8 #[.string a0] w fun e w' => e = .returned (.tuple #[.string r1, .bool r2]) ∧ Below w.heap.size w w' := by
 have hu39 := Tryd.underlying39
 have HB := Aside0.mk (Below.refl w.heap.size w)
 have H : ((spec_Begins.f k a0).bind fun bt280 => (if bt280.2.2.2.2.2 = true then (if 0 ≤ bt280.2.2.1 then (if bt280.2.2.1 ≤ (a0.size : Int) then (some (a0.extract (bt280.2.2.1 : Int).toNat a0.size, true)) else (none)) else (none)) else (some ((⟨#[]⟩ : ByteArray), false)))) = some (r1, r2) := h
 clear h
 replace H := Option.bind_eq_some_iff.mp H
 obtain ⟨⟨t280, t281, t282, t283, t286, t289⟩, A20, H⟩ := H
 replace H : (if t289 = true then (if 0 ≤ t282 then (if t282 ≤ (a0.size : Int) then (some (a0.extract (t282 : Int).toNat a0.size, true)) else (none)) else (none)) else (some ((⟨#[]⟩ : ByteArray), false))) = some (r1, r2) := H
 have A2 := Aside0.mk A20
 clear A20
 by_cases c3 : t289 = true
 ·
  subst c3
  have H1 : (if 0 ≤ t282 then (if t282 ≤ (a0.size : Int) then (some (a0.extract (t282 : Int).toNat a0.size, true)) else (none)) else (none)) = some (r1, r2) := by rw [if_pos rfl] at H; exact H
  clear H
  have H := H1
  clear H1
  by_cases c4 : 0 ≤ t282
  ·
   rw [if_pos c4] at H
   have c4b0 := eq_true c4
   have c4b1 : decide (0 ≤ t282) = true := decide_eq_true c4
   clear c4
   by_cases c5 : t282 ≤ (a0.size : Int)
   ·
    rw [if_pos c5] at H
    have c5b0 := eq_true c5
    have c5b1 : decide (t282 ≤ (a0.size : Int)) = true := decide_eq_true c5
    clear c5
    simp only [Option.some.injEq, Prod.mk.injEq] at H
    obtain ⟨rfl, rfl⟩ := H
    go_enter Tryd.func8, Tryd.ntmps8
    go_wp2_with (first | ((with_reducible refine gate_callee (f := 19) rfl ?_); refine goesL_ (some 8) rfl rfl Tryd.func19 (by kernel_rfl) rfl #[.string a0] rfl (by (try simp only [List.map_toArray, List.map_cons, List.map_nil]); first | done | rfl | (simp only [List.length_drop, List.length_take]; rfl)) ?_; (with_reducible refine (spec_Begins.calls k a0 t280 t281 t282 t283 t286 true _ A2.out).mono ?_); rintro e w6 ⟨v284, v287, rfl, ho0, ho1, hb⟩; refine ⟨_, rfl, ?_⟩; have n0_ := Aside0.mk (Kd.R_lower ho0 (below_size (by repeat (first | (with_reducible first | exact HB.out | apply below_alloc | apply pw_below_drewN | apply below_drew1) | exact HB.out)))); have n1_ := Aside0.mk (Kd.R_lower ho1 (below_size (by repeat (first | (with_reducible first | exact HB.out | apply below_alloc | apply pw_below_drewN | apply below_drew1) | exact HB.out)))); have n2_ := Aside0.mk (below_step (by repeat (first | (with_reducible first | exact HB.out | apply below_alloc | apply pw_below_drewN | apply below_drew1) | exact HB.out)) hb); clear HB; have HO285 := n0_; have HO288 := n1_; have HB := n2_; clear n0_ n1_ n2_; (try clear hb); (try clear hb2); (try clear hk); (try clear hi); (try clear ho0); (try clear ho1)) | ((with_reducible refine gate_dst (N := 4) rfl ?_); refine box_event ?hg (N := 4) ?hd (cs := #[.int .i64 0, .int .i64 0, .int .i64 0, .slice none 0 0, .slice none 0 0]) (t := 39) ?hr ?_; (case hd => rfl); (case hg => rfl); (case hr => first | (go_simp; done) | (go_simp; rfl)); intro gb290 hg w7 hbox hb; have n0_ := Aside0.mk (Kd.R_below (by (with_reducible repeat (first | apply Kd.R_alloc | apply Kd.R_drewN | apply Kd.R_drew)); exact HO285.out) hb); have n1_ := Aside0.mk (Kd.R_below (Kd.R_elderB (by (with_reducible repeat (first | apply Kd.R_alloc | apply Kd.R_drewN | apply Kd.R_drew)); exact HO288.out) gb290 (Nat.le_of_eq hg.symm)) hb); have n2_ := Aside0.mk (below_step (by repeat (first | (with_reducible first | exact HB.out | apply below_alloc | apply pw_below_drewN | apply below_drew1) | exact HB.out)) hb); have n3_ := Aside0.mk (hbox); have n4_ := Aside0.mk ((by rw [hg]; exact (below_size (by repeat (first | (with_reducible first | exact HB.out | apply below_alloc | apply pw_below_drewN | apply below_drew1) | exact HB.out))) : w.heap.size ≤ gb290)); have n5_ := Aside0.mk ((by rw [hg]; exact (below_size (by repeat (first | (with_reducible first | exact HB.out | apply below_alloc | apply pw_below_drewN | apply below_drew1) | exact HB.out))) : w.heap.size ≤ gb290)); clear HO285; clear HO288; clear HB; have HO285 := n0_; have HO288 := n1_; have HB := n2_; have BK290 := n3_; have GW290 := n4_; have GE290 := n5_; clear n0_ n1_ n2_ n3_ n4_ n5_; clear hb hbox hg; have hcz8_0 : w7.cell? ⟨gb290, 0, none⟩ = some (.int .i64 0) := (blk_cell BK290.out 0).trans rfl; have hcz8_1 : w7.cell? ⟨gb290, 1, none⟩ = some (.int .i64 0) := (blk_cell BK290.out 1).trans rfl; have hcz8_2 : w7.cell? ⟨gb290, 2, none⟩ = some (.int .i64 0) := (blk_cell BK290.out 2).trans rfl; have hcz8_3 : w7.cell? ⟨gb290, 3, none⟩ = some (.slice none 0 0) := (blk_cell BK290.out 3).trans rfl; have hcz8_4 : w7.cell? ⟨gb290, 4, none⟩ = some (.slice none 0 0) := (blk_cell BK290.out 4).trans rfl; have hfz8_0 := blk_frozen BK290.out 0; have hfz8_1 := blk_frozen BK290.out 1; have hfz8_2 := blk_frozen BK290.out 2; have hfz8_3 := blk_frozen BK290.out 3; have hfz8_4 := blk_frozen BK290.out 4; obtain ⟨Ao9, co9, eo9⟩ := Kd.R_slice HO285.out; subst eo9; obtain ⟨Ao10, co10, eo10⟩ := Kd.R_slice HO288.out; subst eo10))
    go_ret2
    exact ⟨by first | rfl | (simp [errX_none, errX_some] <;> rfl) | (simp [*, errX_none, errX_some] <;> rfl), by repeat (first | (with_reducible first | exact HB.out | apply below_alloc | apply pw_below_drewN | apply below_drew1 | refine below_set ?_ GE290.out) | exact HB.out)⟩
   rw [if_neg c5] at H
   exact absurd H (by simp)
  rw [if_neg c4] at H
  exact absurd H (by simp)
 replace c3 := Bool.eq_false_iff.mpr c3
 subst c3
 have H1 : (some ((⟨#[]⟩ : ByteArray), false)) = some (r1, r2) := by rw [if_neg (show ¬ (false = true) by decide)] at H; exact H
 clear H
 have H := H1
 clear H1
 simp only [Option.some.injEq, Prod.mk.injEq] at H
 obtain ⟨rfl, rfl⟩ := H
 go_enter Tryd.func8, Tryd.ntmps8
 go_wp2_with (first | ((with_reducible refine gate_callee (f := 19) rfl ?_); refine goesL_ (some 8) rfl rfl Tryd.func19 (by kernel_rfl) rfl #[.string a0] rfl (by (try simp only [List.map_toArray, List.map_cons, List.map_nil]); first | done | rfl | (simp only [List.length_drop, List.length_take]; rfl)) ?_; (with_reducible refine (spec_Begins.calls k a0 t280 t281 t282 t283 t286 false _ A2.out).mono ?_); rintro e w11 ⟨v284, v287, rfl, ho0, ho1, hb⟩; refine ⟨_, rfl, ?_⟩; have n0_ := Aside0.mk (Kd.R_lower ho0 (below_size (by repeat (first | (with_reducible first | exact HB.out | apply below_alloc | apply pw_below_drewN | apply below_drew1) | exact HB.out)))); have n1_ := Aside0.mk (Kd.R_lower ho1 (below_size (by repeat (first | (with_reducible first | exact HB.out | apply below_alloc | apply pw_below_drewN | apply below_drew1) | exact HB.out)))); have n2_ := Aside0.mk (below_step (by repeat (first | (with_reducible first | exact HB.out | apply below_alloc | apply pw_below_drewN | apply below_drew1) | exact HB.out)) hb); clear HB; have HO285 := n0_; have HO288 := n1_; have HB := n2_; clear n0_ n1_ n2_; (try clear hb); (try clear hb2); (try clear hk); (try clear hi); (try clear ho0); (try clear ho1)) | ((with_reducible refine gate_dst (N := 4) rfl ?_); refine box_event ?hg (N := 4) ?hd (cs := #[.int .i64 0, .int .i64 0, .int .i64 0, .slice none 0 0, .slice none 0 0]) (t := 39) ?hr ?_; (case hd => rfl); (case hg => rfl); (case hr => first | (go_simp; done) | (go_simp; rfl)); intro gb290 hg w12 hbox hb; have n0_ := Aside0.mk (Kd.R_below (by (with_reducible repeat (first | apply Kd.R_alloc | apply Kd.R_drewN | apply Kd.R_drew)); exact HO285.out) hb); have n1_ := Aside0.mk (Kd.R_below (Kd.R_elderB (by (with_reducible repeat (first | apply Kd.R_alloc | apply Kd.R_drewN | apply Kd.R_drew)); exact HO288.out) gb290 (Nat.le_of_eq hg.symm)) hb); have n2_ := Aside0.mk (below_step (by repeat (first | (with_reducible first | exact HB.out | apply below_alloc | apply pw_below_drewN | apply below_drew1) | exact HB.out)) hb); have n3_ := Aside0.mk (hbox); have n4_ := Aside0.mk ((by rw [hg]; exact (below_size (by repeat (first | (with_reducible first | exact HB.out | apply below_alloc | apply pw_below_drewN | apply below_drew1) | exact HB.out))) : w.heap.size ≤ gb290)); have n5_ := Aside0.mk ((by rw [hg]; exact (below_size (by repeat (first | (with_reducible first | exact HB.out | apply below_alloc | apply pw_below_drewN | apply below_drew1) | exact HB.out))) : w.heap.size ≤ gb290)); clear HO285; clear HO288; clear HB; have HO285 := n0_; have HO288 := n1_; have HB := n2_; have BK290 := n3_; have GW290 := n4_; have GE290 := n5_; clear n0_ n1_ n2_ n3_ n4_ n5_; clear hb hbox hg; have hcz13_0 : w12.cell? ⟨gb290, 0, none⟩ = some (.int .i64 0) := (blk_cell BK290.out 0).trans rfl; have hcz13_1 : w12.cell? ⟨gb290, 1, none⟩ = some (.int .i64 0) := (blk_cell BK290.out 1).trans rfl; have hcz13_2 : w12.cell? ⟨gb290, 2, none⟩ = some (.int .i64 0) := (blk_cell BK290.out 2).trans rfl; have hcz13_3 : w12.cell? ⟨gb290, 3, none⟩ = some (.slice none 0 0) := (blk_cell BK290.out 3).trans rfl; have hcz13_4 : w12.cell? ⟨gb290, 4, none⟩ = some (.slice none 0 0) := (blk_cell BK290.out 4).trans rfl; have hfz13_0 := blk_frozen BK290.out 0; have hfz13_1 := blk_frozen BK290.out 1; have hfz13_2 := blk_frozen BK290.out 2; have hfz13_3 := blk_frozen BK290.out 3; have hfz13_4 := blk_frozen BK290.out 4; obtain ⟨Ao14, co14, eo14⟩ := Kd.R_slice HO285.out; subst eo14; obtain ⟨Ao15, co15, eo15⟩ := Kd.R_slice HO288.out; subst eo15))
 go_ret2
 exact ⟨by first | rfl | (simp [errX_none, errX_some] <;> rfl) | (simp [*, errX_none, errX_some] <;> rfl), by repeat (first | (with_reducible first | exact HB.out | apply below_alloc | apply pw_below_drewN | apply below_drew1 | refine below_set ?_ GE290.out) | exact HB.out)⟩
mutual
def fastjson_skipWSSlow.j0 : Nat → ByteArray → Bool → Option (ByteArray)
  | 0, _, _ => none
  | k + 1, x0, x26 => if x26 = true then (some x0) else (fastjson_skipWSSlow.l0 k x0 1)
def fastjson_skipWSSlow.l0 : Nat → ByteArray → Int → Option (ByteArray)
  | 0, _, _ => none
  | k + 1, x0, x3 => if x3 < (x0.size : Int) then (if 0 ≤ x3 then (if (bt x0 x3) = 32 then (fastjson_skipWSSlow.l0 k x0 (wrap64 (x3 + 1))) else (if (bt x0 x3) = 10 then (fastjson_skipWSSlow.l0 k x0 (wrap64 (x3 + 1))) else (if (bt x0 x3) = 9 then (fastjson_skipWSSlow.l0 k x0 (wrap64 (x3 + 1))) else (if (bt x0 x3) = 13 then (fastjson_skipWSSlow.l0 k x0 (wrap64 (x3 + 1))) else (if x3 ≤ (x0.size : Int) then (some (x0.extract (x3 : Int).toNat x0.size)) else (none)))))) else (none)) else (some (⟨#[]⟩ : ByteArray))
end
def fastjson_skipWSSlow.f (k : Nat) (a0 : ByteArray) : Option (ByteArray) := if (a0.size : Int) = 0 then (fastjson_skipWSSlow.j0 k a0 true) else (if 0 < (a0.size : Int) then (if (bt a0 0) = 32 then (fastjson_skipWSSlow.j0 k a0 false) else (if (bt a0 0) = 10 then (fastjson_skipWSSlow.j0 k a0 false) else (if (bt a0 0) = 9 then (fastjson_skipWSSlow.j0 k a0 false) else (fastjson_skipWSSlow.j0 k a0 ((bt a0 0) != 13))))) else (none))
set_option maxHeartbeats 8000000 in
set_option maxRecDepth 100000 in
theorem fastjson_skipWSSlow.calls (k : Nat) (a0 : ByteArray) (r : ByteArray) (w : World) (h : fastjson_skipWSSlow.f k a0 = some r) :
    Calls Tryd.prog 54 #[.string a0] w fun e w' => e = .returned (.string r) ∧ Drawn0 w w' := by
 have H : (if (a0.size : Int) = 0 then (fastjson_skipWSSlow.j0 k a0 true) else (if 0 < (a0.size : Int) then (if (bt a0 0) = 32 then (fastjson_skipWSSlow.j0 k a0 false) else (if (bt a0 0) = 10 then (fastjson_skipWSSlow.j0 k a0 false) else (if (bt a0 0) = 9 then (fastjson_skipWSSlow.j0 k a0 false) else (fastjson_skipWSSlow.j0 k a0 ((bt a0 0) != 13))))) else (none))) = some r := h
 clear h
 have HC2 := Aside0.mk H
 clear H
 go_enter Tryd.func54, Tryd.ntmps54
 go_upto_region 1 with (fail)
 go_cut [26] (fun v26 wc => ∃ (kq : Nat) (x26_1 : Bool), v26 = .bool x26_1 ∧ Aside0 (fastjson_skipWSSlow.j0 kq a0 x26_1 = some r) ∧ Aside0 (kq ≤ k) ∧ Drawn0 w wc)
 case first =>
  have H := HC2.out
  clear HC2
  by_cases c3 : (a0.size : Int) = 0
  ·
   rw [if_pos c3] at H
   have c3b0 : ((a0.size : Int) == 0) = true := beq_iff_eq.mpr c3
   have c3b1 : ((a0.size : Int) != 0) = false := bne_eq_false_iff_eq.mpr c3
   clear c3
   (first | rw [c3b0] | (simp only [i64_w, i32_w]; rw [c3b0]) | rw [c3b1] | skip)
   have H' := Aside0.mk H
   clear H
   go_wp2
   go_meet
   case rel => exact ⟨_, (true), (by first | rfl | (simp; done) | (simp [nil_ne_, nil_eq_]; done) | (simp [*]; done)), H', ⟨by first | omega | exact Nat.le_refl _⟩, by repeat (first | exact Drawn0.refl _ | apply Drawn0.step)⟩
  rw [if_neg c3] at H
  have c3b0 : ((a0.size : Int) == 0) = false := beq_eq_false_iff_ne.mpr c3
  have c3b1 : ((a0.size : Int) != 0) = true := bne_iff_ne.mpr c3
  (first | rw [c3b0] | (simp only [i64_w, i32_w]; rw [c3b0]) | rw [c3b1] | skip)
  by_cases c4 : 0 < (a0.size : Int)
  ·
   rw [if_pos c4] at H
   have c4b0 : decide (0 < (a0.size : Int)) = true := decide_eq_true c4
   have c4b1 : decide (0 < a0.size) = true := decide_eq_true (by omega)
   clear c4
   by_cases c6 : (bt a0 0) = 32
   ·
    rw [if_pos c6] at H
    have c6b0 : ((bt a0 0) == 32) = true := beq_iff_eq.mpr c6
    have c6b1 : ((bt a0 0) != 32) = false := bne_eq_false_iff_eq.mpr c6
    clear c6
    have H' := Aside0.mk H
    clear H
    have p5 : 0 ≤ (0 : Int) := (by omega)
    have q5 : 0 < a0.size := (by have : (0 : Int) < (a0.size : Int) := of_decide_eq_true (by first | (with_reducible assumption) | assumption); omega)
    have hx5 := bt_lit a0 0 0 rfl
    clear p5
    have qi5 : (0 < (a0.size : Int)) = True := eq_true (of_decide_eq_true (by first | (with_reducible assumption) | assumption))
    replace q5 := eq_true q5
    go_wp2
    go_meet
    case rel => exact ⟨_, (false), (by first | rfl | (simp; done) | (simp [nil_ne_, nil_eq_]; done) | (simp [*]; done)), H', ⟨by first | omega | exact Nat.le_refl _⟩, by repeat (first | exact Drawn0.refl _ | apply Drawn0.step)⟩
   rw [if_neg c6] at H
   have c6b0 : ((bt a0 0) == 32) = false := beq_eq_false_iff_ne.mpr c6
   have c6b1 : ((bt a0 0) != 32) = true := bne_iff_ne.mpr c6
   by_cases c8 : (bt a0 0) = 10
   ·
    rw [if_pos c8] at H
    have c8b0 : ((bt a0 0) == 10) = true := beq_iff_eq.mpr c8
    have c8b1 : ((bt a0 0) != 10) = false := bne_eq_false_iff_eq.mpr c8
    clear c8
    have H' := Aside0.mk H
    clear H
    have p5 : 0 ≤ (0 : Int) := (by omega)
    have q5 : 0 < a0.size := (by have : (0 : Int) < (a0.size : Int) := of_decide_eq_true (by first | (with_reducible assumption) | assumption); omega)
    have hx5 := bt_lit a0 0 0 rfl
    clear p5
    have qi5 : (0 < (a0.size : Int)) = True := eq_true (of_decide_eq_true (by first | (with_reducible assumption) | assumption))
    replace q5 := eq_true q5
    have p7 : 0 ≤ (0 : Int) := (by omega)
    have q7 : 0 < a0.size := (by have : (0 : Int) < (a0.size : Int) := of_decide_eq_true (by first | (with_reducible assumption) | assumption); omega)
    have hx7 := bt_lit a0 0 0 rfl
    clear p7
    have qi7 : (0 < (a0.size : Int)) = True := eq_true (of_decide_eq_true (by first | (with_reducible assumption) | assumption))
    replace q7 := eq_true q7
    go_wp2
    go_meet
    case rel => exact ⟨_, (false), (by first | rfl | (simp; done) | (simp [nil_ne_, nil_eq_]; done) | (simp [*]; done)), H', ⟨by first | omega | exact Nat.le_refl _⟩, by repeat (first | exact Drawn0.refl _ | apply Drawn0.step)⟩
   rw [if_neg c8] at H
   have c8b0 : ((bt a0 0) == 10) = false := beq_eq_false_iff_ne.mpr c8
   have c8b1 : ((bt a0 0) != 10) = true := bne_iff_ne.mpr c8
   by_cases c10 : (bt a0 0) = 9
   ·
    rw [if_pos c10] at H
    have c10b0 : ((bt a0 0) == 9) = true := beq_iff_eq.mpr c10
    have c10b1 : ((bt a0 0) != 9) = false := bne_eq_false_iff_eq.mpr c10
    clear c10
    have H' := Aside0.mk H
    clear H
    have p5 : 0 ≤ (0 : Int) := (by omega)
    have q5 : 0 < a0.size := (by have : (0 : Int) < (a0.size : Int) := of_decide_eq_true (by first | (with_reducible assumption) | assumption); omega)
    have hx5 := bt_lit a0 0 0 rfl
    clear p5
    have qi5 : (0 < (a0.size : Int)) = True := eq_true (of_decide_eq_true (by first | (with_reducible assumption) | assumption))
    replace q5 := eq_true q5
    have p7 : 0 ≤ (0 : Int) := (by omega)
    have q7 : 0 < a0.size := (by have : (0 : Int) < (a0.size : Int) := of_decide_eq_true (by first | (with_reducible assumption) | assumption); omega)
    have hx7 := bt_lit a0 0 0 rfl
    clear p7
    have qi7 : (0 < (a0.size : Int)) = True := eq_true (of_decide_eq_true (by first | (with_reducible assumption) | assumption))
    replace q7 := eq_true q7
    have p9 : 0 ≤ (0 : Int) := (by omega)
    have q9 : 0 < a0.size := (by have : (0 : Int) < (a0.size : Int) := of_decide_eq_true (by first | (with_reducible assumption) | assumption); omega)
    have hx9 := bt_lit a0 0 0 rfl
    clear p9
    have qi9 : (0 < (a0.size : Int)) = True := eq_true (of_decide_eq_true (by first | (with_reducible assumption) | assumption))
    replace q9 := eq_true q9
    go_wp2
    go_meet
    case rel => exact ⟨_, (false), (by first | rfl | (simp; done) | (simp [nil_ne_, nil_eq_]; done) | (simp [*]; done)), H', ⟨by first | omega | exact Nat.le_refl _⟩, by repeat (first | exact Drawn0.refl _ | apply Drawn0.step)⟩
   rw [if_neg c10] at H
   have c10b0 : ((bt a0 0) == 9) = false := beq_eq_false_iff_ne.mpr c10
   have c10b1 : ((bt a0 0) != 9) = true := bne_iff_ne.mpr c10
   have H' := Aside0.mk H
   clear H
   have p5 : 0 ≤ (0 : Int) := (by omega)
   have q5 : 0 < a0.size := (by have : (0 : Int) < (a0.size : Int) := of_decide_eq_true (by first | (with_reducible assumption) | assumption); omega)
   have hx5 := bt_lit a0 0 0 rfl
   clear p5
   have qi5 : (0 < (a0.size : Int)) = True := eq_true (of_decide_eq_true (by first | (with_reducible assumption) | assumption))
   replace q5 := eq_true q5
   have p7 : 0 ≤ (0 : Int) := (by omega)
   have q7 : 0 < a0.size := (by have : (0 : Int) < (a0.size : Int) := of_decide_eq_true (by first | (with_reducible assumption) | assumption); omega)
   have hx7 := bt_lit a0 0 0 rfl
   clear p7
   have qi7 : (0 < (a0.size : Int)) = True := eq_true (of_decide_eq_true (by first | (with_reducible assumption) | assumption))
   replace q7 := eq_true q7
   have p9 : 0 ≤ (0 : Int) := (by omega)
   have q9 : 0 < a0.size := (by have : (0 : Int) < (a0.size : Int) := of_decide_eq_true (by first | (with_reducible assumption) | assumption); omega)
   have hx9 := bt_lit a0 0 0 rfl
   clear p9
   have qi9 : (0 < (a0.size : Int)) = True := eq_true (of_decide_eq_true (by first | (with_reducible assumption) | assumption))
   replace q9 := eq_true q9
   have p11 : 0 ≤ (0 : Int) := (by omega)
   have q11 : 0 < a0.size := (by have : (0 : Int) < (a0.size : Int) := of_decide_eq_true (by first | (with_reducible assumption) | assumption); omega)
   have hx11 := bt_lit a0 0 0 rfl
   clear p11
   have qi11 : (0 < (a0.size : Int)) = True := eq_true (of_decide_eq_true (by first | (with_reducible assumption) | assumption))
   replace q11 := eq_true q11
   go_wp2
   go_meet
   case rel => exact ⟨_, (((bt a0 0) != 13)), (by first | rfl | (simp; done) | (simp [nil_ne_, nil_eq_]; done) | (simp [*]; done)), H', ⟨by first | omega | exact Nat.le_refl _⟩, by repeat (first | exact Drawn0.refl _ | apply Drawn0.step)⟩
  rw [if_neg c4] at H
  exact absurd H (by simp)
 clear HC2
 try clear c1
 try clear p1
 try clear q1
 try clear hx1
 try clear qi1
 try clear p2
 try clear c3
 try clear c3b0
 try clear c3b1
 try clear c4
 try clear c4b0
 try clear c4b1
 try clear c5
 try clear p5
 try clear q5
 try clear hx5
 try clear qi5
 try clear c6
 try clear c6b0
 try clear c6b1
 try clear p7
 try clear q7
 try clear hx7
 try clear qi7
 try clear c8
 try clear c8b0
 try clear c8b1
 try clear p9
 try clear q9
 try clear hx9
 try clear qi9
 try clear c10
 try clear c10b0
 try clear c10b1
 try clear p11
 try clear q11
 try clear hx11
 try clear qi11
 try clear p11
 try clear p5
 try clear p7
 try clear p9
 try clear q11
 try clear q5
 try clear q7
 try clear q9
 obtain ⟨kq, x26_1, rfl, HA, HJ1, ⟨mc1, rfl⟩⟩ := hcut
 rcases kq with _ | kj1
 · exact absurd HA.out (by simp [fastjson_skipWSSlow.j0])
 have H := HA.out
 clear HA
 simp only [fastjson_skipWSSlow.j0] at H
 by_cases c12 : x26_1 = true
 ·
  subst c12
  have H1 : (some a0) = some r := by rw [if_pos rfl] at H; exact H
  clear H
  have H := H1
  clear H1
  obtain rfl := Option.some.inj H
  go_wp2
  go_ret
  exact ⟨by first | rfl | (simp; done) | (simp [nil_ne_, nil_eq_]; done) | (simp [*]; done), by repeat (first | exact Drawn0.refl _ | apply Drawn0.step)⟩
 replace c12 := Bool.eq_false_iff.mpr c12
 subst c12
 have H1 : (fastjson_skipWSSlow.l0 kj1 a0 1) = some r := by rw [if_neg (show ¬ (false = true) by decide)] at H; exact H
 clear H
 have H := H1
 clear H1
 have H' := Aside0.mk H
 clear H
 go_wp2
 try simp only [Act.put, List.setIfInBounds_toArray, List.set_cons_succ, List.set_cons_zero]
 go_loopg [3] kj1 (fun kq v3 w' => ∃ (x3_2 : Int), v3 = .int .i64 x3_2 ∧ Aside0 (fastjson_skipWSSlow.l0 kq a0 x3_2 = some r) ∧ Aside0 (kq ≤ kj1) ∧ Drawn0 w w')
 case atStart => exact ⟨(1), (by first | rfl | (simp; done) | (simp [nil_ne_, nil_eq_]; done) | (simp [*]; done)), H', ⟨Nat.le_refl _⟩, by repeat (first | exact Drawn0.refl _ | apply Drawn0.step)⟩
 case round =>
  clear H'
  try clear c1
  try clear p1
  try clear q1
  try clear hx1
  try clear qi1
  try clear p2
  try clear c3
  try clear c3b0
  try clear c3b1
  try clear c4
  try clear c4b0
  try clear c4b1
  try clear c5
  try clear p5
  try clear q5
  try clear hx5
  try clear qi5
  try clear c6
  try clear c6b0
  try clear c6b1
  try clear p7
  try clear q7
  try clear hx7
  try clear qi7
  try clear c8
  try clear c8b0
  try clear c8b1
  try clear p9
  try clear q9
  try clear hx9
  try clear qi9
  try clear c10
  try clear c10b0
  try clear c10b1
  try clear p11
  try clear q11
  try clear hx11
  try clear qi11
  try clear c12
  try clear p1
  try clear p11
  try clear p2
  try clear p5
  try clear p7
  try clear p9
  try clear q1
  try clear q11
  try clear q5
  try clear q7
  try clear q9
  obtain ⟨x3_2, rfl, HA, HK2, ⟨m2, rfl⟩⟩ := hrel
  rcases gk with _ | k2
  · exact absurd HA.out (by simp [fastjson_skipWSSlow.l0])
  have H := HA.out
  clear HA
  simp only [fastjson_skipWSSlow.l0] at H
  by_cases c13 : x3_2 < (a0.size : Int)
  ·
   rw [if_pos c13] at H
   have c13b0 : decide (x3_2 < (a0.size : Int)) = true := decide_eq_true c13
   clear c13
   by_cases c14 : 0 ≤ x3_2
   ·
    rw [if_pos c14] at H
    have c14b0 : decide (0 ≤ x3_2) = true := decide_eq_true c14
    clear c14
    by_cases c16 : (bt a0 x3_2) = 32
    ·
     rw [if_pos c16] at H
     have c16b0 : ((bt a0 x3_2) == 32) = true := beq_iff_eq.mpr c16
     have c16b1 : ((bt a0 x3_2) != 32) = false := bne_eq_false_iff_eq.mpr c16
     clear c16
     have H' := Aside0.mk H
     clear H
     have p15 : 0 ≤ (x3_2 : Int) := of_decide_eq_true (by first | (with_reducible assumption) | assumption)
     have q15 : x3_2 < (a0.size : Int) := of_decide_eq_true (by first | (with_reducible assumption) | assumption)
     have hx15 := bt_at a0 x3_2
     replace p15 := eq_true p15
     replace q15 := eq_true q15
     go_wp2
     go_roundg k2
     case measure => have := HJ1.out; have := HK2.out; omega
     case rel => exact ⟨(wrap64 (x3_2 + 1)), (by first | rfl | (simp; done) | (simp [nil_ne_, nil_eq_]; done) | (simp [*]; done)), H', ⟨by have := HJ1.out; have := HK2.out; omega⟩, by repeat (first | exact Drawn0.refl _ | apply Drawn0.step)⟩
    rw [if_neg c16] at H
    have c16b0 : ((bt a0 x3_2) == 32) = false := beq_eq_false_iff_ne.mpr c16
    have c16b1 : ((bt a0 x3_2) != 32) = true := bne_iff_ne.mpr c16
    by_cases c18 : (bt a0 x3_2) = 10
    ·
     rw [if_pos c18] at H
     have c18b0 : ((bt a0 x3_2) == 10) = true := beq_iff_eq.mpr c18
     have c18b1 : ((bt a0 x3_2) != 10) = false := bne_eq_false_iff_eq.mpr c18
     clear c18
     have H' := Aside0.mk H
     clear H
     have p15 : 0 ≤ (x3_2 : Int) := of_decide_eq_true (by first | (with_reducible assumption) | assumption)
     have q15 : x3_2 < (a0.size : Int) := of_decide_eq_true (by first | (with_reducible assumption) | assumption)
     have hx15 := bt_at a0 x3_2
     replace p15 := eq_true p15
     replace q15 := eq_true q15
     have p17 : 0 ≤ (x3_2 : Int) := of_decide_eq_true (by first | (with_reducible assumption) | assumption)
     have q17 : x3_2 < (a0.size : Int) := of_decide_eq_true (by first | (with_reducible assumption) | assumption)
     have hx17 := bt_at a0 x3_2
     replace p17 := eq_true p17
     replace q17 := eq_true q17
     go_wp2
     go_roundg k2
     case measure => have := HJ1.out; have := HK2.out; omega
     case rel => exact ⟨(wrap64 (x3_2 + 1)), (by first | rfl | (simp; done) | (simp [nil_ne_, nil_eq_]; done) | (simp [*]; done)), H', ⟨by have := HJ1.out; have := HK2.out; omega⟩, by repeat (first | exact Drawn0.refl _ | apply Drawn0.step)⟩
    rw [if_neg c18] at H
    have c18b0 : ((bt a0 x3_2) == 10) = false := beq_eq_false_iff_ne.mpr c18
    have c18b1 : ((bt a0 x3_2) != 10) = true := bne_iff_ne.mpr c18
    by_cases c20 : (bt a0 x3_2) = 9
    ·
     rw [if_pos c20] at H
     have c20b0 : ((bt a0 x3_2) == 9) = true := beq_iff_eq.mpr c20
     have c20b1 : ((bt a0 x3_2) != 9) = false := bne_eq_false_iff_eq.mpr c20
     clear c20
     have H' := Aside0.mk H
     clear H
     have p15 : 0 ≤ (x3_2 : Int) := of_decide_eq_true (by first | (with_reducible assumption) | assumption)
     have q15 : x3_2 < (a0.size : Int) := of_decide_eq_true (by first | (with_reducible assumption) | assumption)
     have hx15 := bt_at a0 x3_2
     replace p15 := eq_true p15
     replace q15 := eq_true q15
     have p17 : 0 ≤ (x3_2 : Int) := of_decide_eq_true (by first | (with_reducible assumption) | assumption)
     have q17 : x3_2 < (a0.size : Int) := of_decide_eq_true (by first | (with_reducible assumption) | assumption)
     have hx17 := bt_at a0 x3_2
     replace p17 := eq_true p17
     replace q17 := eq_true q17
     have p19 : 0 ≤ (x3_2 : Int) := of_decide_eq_true (by first | (with_reducible assumption) | assumption)
     have q19 : x3_2 < (a0.size : Int) := of_decide_eq_true (by first | (with_reducible assumption) | assumption)
     have hx19 := bt_at a0 x3_2
     replace p19 := eq_true p19
     replace q19 := eq_true q19
     go_wp2
     go_roundg k2
     case measure => have := HJ1.out; have := HK2.out; omega
     case rel => exact ⟨(wrap64 (x3_2 + 1)), (by first | rfl | (simp; done) | (simp [nil_ne_, nil_eq_]; done) | (simp [*]; done)), H', ⟨by have := HJ1.out; have := HK2.out; omega⟩, by repeat (first | exact Drawn0.refl _ | apply Drawn0.step)⟩
    rw [if_neg c20] at H
    have c20b0 : ((bt a0 x3_2) == 9) = false := beq_eq_false_iff_ne.mpr c20
    have c20b1 : ((bt a0 x3_2) != 9) = true := bne_iff_ne.mpr c20
    by_cases c22 : (bt a0 x3_2) = 13
    ·
     rw [if_pos c22] at H
     have c22b0 : ((bt a0 x3_2) == 13) = true := beq_iff_eq.mpr c22
     have c22b1 : ((bt a0 x3_2) != 13) = false := bne_eq_false_iff_eq.mpr c22
     clear c22
     have H' := Aside0.mk H
     clear H
     have p15 : 0 ≤ (x3_2 : Int) := of_decide_eq_true (by first | (with_reducible assumption) | assumption)
     have q15 : x3_2 < (a0.size : Int) := of_decide_eq_true (by first | (with_reducible assumption) | assumption)
     have hx15 := bt_at a0 x3_2
     replace p15 := eq_true p15
     replace q15 := eq_true q15
     have p17 : 0 ≤ (x3_2 : Int) := of_decide_eq_true (by first | (with_reducible assumption) | assumption)
     have q17 : x3_2 < (a0.size : Int) := of_decide_eq_true (by first | (with_reducible assumption) | assumption)
     have hx17 := bt_at a0 x3_2
     replace p17 := eq_true p17
     replace q17 := eq_true q17
     have p19 : 0 ≤ (x3_2 : Int) := of_decide_eq_true (by first | (with_reducible assumption) | assumption)
     have q19 : x3_2 < (a0.size : Int) := of_decide_eq_true (by first | (with_reducible assumption) | assumption)
     have hx19 := bt_at a0 x3_2
     replace p19 := eq_true p19
     replace q19 := eq_true q19
     have p21 : 0 ≤ (x3_2 : Int) := of_decide_eq_true (by first | (with_reducible assumption) | assumption)
     have q21 : x3_2 < (a0.size : Int) := of_decide_eq_true (by first | (with_reducible assumption) | assumption)
     have hx21 := bt_at a0 x3_2
     replace p21 := eq_true p21
     replace q21 := eq_true q21
     go_wp2
     go_roundg k2
     case measure => have := HJ1.out; have := HK2.out; omega
     case rel => exact ⟨(wrap64 (x3_2 + 1)), (by first | rfl | (simp; done) | (simp [nil_ne_, nil_eq_]; done) | (simp [*]; done)), H', ⟨by have := HJ1.out; have := HK2.out; omega⟩, by repeat (first | exact Drawn0.refl _ | apply Drawn0.step)⟩
    rw [if_neg c22] at H
    have c22b0 : ((bt a0 x3_2) == 13) = false := beq_eq_false_iff_ne.mpr c22
    have c22b1 : ((bt a0 x3_2) != 13) = true := bne_iff_ne.mpr c22
    have c23b0 := eq_true (of_decide_eq_true (by first | (with_reducible assumption) | assumption) : 0 ≤ x3_2)
    by_cases c24 : x3_2 ≤ (a0.size : Int)
    ·
     rw [if_pos c24] at H
     have c24b0 := eq_true c24
     have c24b1 : decide (x3_2 ≤ (a0.size : Int)) = true := decide_eq_true c24
     clear c24
     obtain rfl := Option.some.inj H
     have p15 : 0 ≤ (x3_2 : Int) := of_decide_eq_true (by first | (with_reducible assumption) | assumption)
     have q15 : x3_2 < (a0.size : Int) := of_decide_eq_true (by first | (with_reducible assumption) | assumption)
     have hx15 := bt_at a0 x3_2
     replace p15 := eq_true p15
     replace q15 := eq_true q15
     have p17 : 0 ≤ (x3_2 : Int) := of_decide_eq_true (by first | (with_reducible assumption) | assumption)
     have q17 : x3_2 < (a0.size : Int) := of_decide_eq_true (by first | (with_reducible assumption) | assumption)
     have hx17 := bt_at a0 x3_2
     replace p17 := eq_true p17
     replace q17 := eq_true q17
     have p19 : 0 ≤ (x3_2 : Int) := of_decide_eq_true (by first | (with_reducible assumption) | assumption)
     have q19 : x3_2 < (a0.size : Int) := of_decide_eq_true (by first | (with_reducible assumption) | assumption)
     have hx19 := bt_at a0 x3_2
     replace p19 := eq_true p19
     replace q19 := eq_true q19
     have p21 : 0 ≤ (x3_2 : Int) := of_decide_eq_true (by first | (with_reducible assumption) | assumption)
     have q21 : x3_2 < (a0.size : Int) := of_decide_eq_true (by first | (with_reducible assumption) | assumption)
     have hx21 := bt_at a0 x3_2
     replace p21 := eq_true p21
     replace q21 := eq_true q21
     go_wp2
     go_ret
     exact ⟨by first | rfl | (simp; done) | (simp [nil_ne_, nil_eq_]; done) | (simp [*]; done), by repeat (first | exact Drawn0.refl _ | apply Drawn0.step)⟩
    rw [if_neg c24] at H
    exact absurd H (by simp)
   rw [if_neg c14] at H
   exact absurd H (by simp)
  rw [if_neg c13] at H
  have c13b0 : decide (x3_2 < (a0.size : Int)) = false := decide_eq_false c13
  clear c13
  obtain rfl := Option.some.inj H
  go_wp2
  go_ret
  exact ⟨by first | rfl | (simp; done) | (simp [nil_ne_, nil_eq_]; done) | (simp [*]; done), by repeat (first | exact Drawn0.refl _ | apply Drawn0.step)⟩
def fastjson_skipWS.f (k : Nat) (a0 : ByteArray) : Option (ByteArray) := if (a0.size : Int) = 0 then (some a0) else (if 0 < (a0.size : Int) then (if (bt a0 0) > 32 then (some a0) else ((fastjson_skipWSSlow.f k a0).bind fun t291 => (some t291))) else (none))
set_option maxHeartbeats 8000000 in
set_option maxRecDepth 100000 in
theorem fastjson_skipWS.calls (k : Nat) (a0 : ByteArray) (r : ByteArray) (w : World) (h : fastjson_skipWS.f k a0 = some r) :
    Calls Tryd.prog 35 #[.string a0] w fun e w' => e = .returned (.string r) ∧ Drawn0 w w' := by
 have H : (if (a0.size : Int) = 0 then (some a0) else (if 0 < (a0.size : Int) then (if (bt a0 0) > 32 then (some a0) else ((fastjson_skipWSSlow.f k a0).bind fun t291 => (some t291))) else (none))) = some r := h
 clear h
 by_cases c2 : (a0.size : Int) = 0
 ·
  rw [if_pos c2] at H
  have c2b0 : ((a0.size : Int) == 0) = true := beq_iff_eq.mpr c2
  have c2b1 : ((a0.size : Int) != 0) = false := bne_eq_false_iff_eq.mpr c2
  clear c2
  obtain rfl := Option.some.inj H
  go_enter Tryd.func35, Tryd.ntmps35
  go_wp2
  go_ret
  exact ⟨by first | rfl | (simp; done) | (simp [nil_ne_, nil_eq_]; done) | (simp [*]; done), by repeat (first | exact Drawn0.refl _ | apply Drawn0.step)⟩
 rw [if_neg c2] at H
 have c2b0 : ((a0.size : Int) == 0) = false := beq_eq_false_iff_ne.mpr c2
 have c2b1 : ((a0.size : Int) != 0) = true := bne_iff_ne.mpr c2
 by_cases c3 : 0 < (a0.size : Int)
 ·
  rw [if_pos c3] at H
  have c3b0 : decide (0 < (a0.size : Int)) = true := decide_eq_true c3
  have c3b1 : decide (0 < a0.size) = true := decide_eq_true (by omega)
  clear c3
  by_cases c5 : (bt a0 0) > 32
  ·
   rw [if_pos c5] at H
   have c5b0 : decide (32 < (bt a0 0)) = true := decide_eq_true c5
   clear c5
   obtain rfl := Option.some.inj H
   have p4 : 0 ≤ (0 : Int) := (by omega)
   have q4 : 0 < a0.size := (by have : (0 : Int) < (a0.size : Int) := of_decide_eq_true (by first | (with_reducible assumption) | assumption); omega)
   have hx4 := bt_lit a0 0 0 rfl
   clear p4
   have qi4 : (0 < (a0.size : Int)) = True := eq_true (of_decide_eq_true (by first | (with_reducible assumption) | assumption))
   replace q4 := eq_true q4
   go_enter Tryd.func35, Tryd.ntmps35
   go_wp2
   go_ret
   exact ⟨by first | rfl | (simp; done) | (simp [nil_ne_, nil_eq_]; done) | (simp [*]; done), by repeat (first | exact Drawn0.refl _ | apply Drawn0.step)⟩
  rw [if_neg c5] at H
  have c5b0 : decide (32 < (bt a0 0)) = false := decide_eq_false c5
  clear c5
  replace H := Option.bind_eq_some_iff.mp H
  obtain ⟨t291, A60, H⟩ := H
  replace H : (some t291) = some r := H
  have A6 := Aside0.mk A60
  clear A60
  obtain rfl := Option.some.inj H
  have p4 : 0 ≤ (0 : Int) := (by omega)
  have q4 : 0 < a0.size := (by have : (0 : Int) < (a0.size : Int) := of_decide_eq_true (by first | (with_reducible assumption) | assumption); omega)
  have hx4 := bt_lit a0 0 0 rfl
  clear p4
  have qi4 : (0 < (a0.size : Int)) = True := eq_true (of_decide_eq_true (by first | (with_reducible assumption) | assumption))
  replace q4 := eq_true q4
  go_enter Tryd.func35, Tryd.ntmps35
  go_wp2_with (first | ((with_reducible refine gate_callee (f := 54) rfl ?_); refine goesL_ (some 13) rfl rfl Tryd.func54 (by kernel_rfl) rfl #[.string a0] rfl (by (try simp only [List.map_toArray, List.map_cons, List.map_nil]); first | done | rfl | (simp only [List.length_drop, List.length_take]; rfl)) ?_; (with_reducible refine (fastjson_skipWSSlow.calls k a0 t291 _ A6.out).mono ?_); rintro e w' ⟨rfl, ⟨nd, rfl⟩⟩; refine ⟨_, rfl, ?_⟩))
  go_ret
  exact ⟨by first | rfl | (simp; done) | (simp [nil_ne_, nil_eq_]; done) | (simp [*]; done), by repeat (first | exact Drawn0.refl _ | apply Drawn0.step)⟩
 rw [if_neg c3] at H
 exact absurd H (by simp)
end Go.Proofs.YtdhiihegfdmokaaDoor.PFnFjCheckObject