/- what the Go functions that the law FnGjTokensAt reaches compute, each as a plain function, with the proof that the Go code computes just that; no condition beside those that each theorem states. -/
import Derived.Test.YtnmbpleneddkhaaPFnGjTokensAtx0
import Derived.Test.YtnmbpleneddkhaaPFnGjTokensAtx1
import Derived.Test.YtnmbpleneddkhaaPFnGjTokensAtx3
import Derived.Test.YtnmbpleneddkhaaPFnGjTokensAtx4
namespace Go.Proofs.Ytnmbpleneddkhaa.PFnGjTokensAt
open Go.RowKit Go.Proofs.YtnmbpleneddkhaaW.PrintWords Go.Proofs.YtnmbpleneddkhaaW.PrintLast Go.Proofs.YtnmbpleneddkhaaW.PrintMore
set_option linter.unusedVariables false
set_option linter.unusedSimpArgs false
def spec_Places.f (k : Nat) (a0 : ByteArray) : Option (Int × Int × Int × (List (S61)) × (List (S25)) × Bool) := (spec_reader_blanks.f k a0 0).bind fun bt267 => ((spec_reader_value.f k bt267.1 bt267.2).bind fun bt269 => (if bt269.2.2.2.2.2.1 = true then ((spec_reader_blanks.f k bt269.2.2.2.2.2.2.1 bt269.2.2.2.2.2.2.2).bind fun bt282 => (if bt282.2 = (a0.size : Int) then (some (bt269.1, bt269.2.1, bt269.2.2.1, bt269.2.2.2.1, bt269.2.2.2.2.1, true)) else (some (0, 0, 0, ([] : List (S61)), ([] : List (S25)), false)))) else (some (0, 0, 0, ([] : List (S61)), ([] : List (S25)), false))))
set_option maxHeartbeats 8000000 in
set_option maxRecDepth 100000 in
theorem spec_Places.calls (k : Nat) (a0 : ByteArray) (r1 : Int) (r2 : Int) (r3 : Int) (r4 : List (S61)) (r5 : List (S25)) (r6 : Bool) (w : World) (h : spec_Places.f k a0 = some (r1, r2, r3, r4, r5, r6)) :
    Calls Try.prog 9 #[.string a0] w fun e w' => ∃ v3_ v4_ : Value, e = .returned (.tuple #[.agg #[.int .i64 r1, .int .i64 r2, .int .i64 r3, v3_, v4_], .bool r6]) ∧ Kd.R k61 61 w' w.heap.size (fun _ => True) v3_ r4 ∧ Kd.R k25 25 w' w.heap.size (fun k_ => some k_ ≠ (v3_ : Value).ownBlock) v4_ r5 ∧ Below w.heap.size w w' := by
  have hu25 := Try.underlying25
  have hu42 := Try.underlying42
  have HB := Aside0.mk (Below.refl w.heap.size w)
  have H : ((spec_reader_blanks.f k a0 0).bind fun bt267 => ((spec_reader_value.f k bt267.1 bt267.2).bind fun bt269 => (if bt269.2.2.2.2.2.1 = true then ((spec_reader_blanks.f k bt269.2.2.2.2.2.2.1 bt269.2.2.2.2.2.2.2).bind fun bt282 => (if bt282.2 = (a0.size : Int) then (some (bt269.1, bt269.2.1, bt269.2.2.1, bt269.2.2.2.1, bt269.2.2.2.2.1, true)) else (some (0, 0, 0, ([] : List (S61)), ([] : List (S25)), false)))) else (some (0, 0, 0, ([] : List (S61)), ([] : List (S25)), false))))) = some (r1, r2, r3, r4, r5, r6) := h
  clear h
  replace H := Option.bind_eq_some_iff.mp H
  obtain ⟨⟨t267, t268⟩, A20, H⟩ := H
  replace H : ((spec_reader_value.f k t267 t268).bind fun bt269 => (if bt269.2.2.2.2.2.1 = true then ((spec_reader_blanks.f k bt269.2.2.2.2.2.2.1 bt269.2.2.2.2.2.2.2).bind fun bt282 => (if bt282.2 = (a0.size : Int) then (some (bt269.1, bt269.2.1, bt269.2.2.1, bt269.2.2.2.1, bt269.2.2.2.2.1, true)) else (some (0, 0, 0, ([] : List (S61)), ([] : List (S25)), false)))) else (some (0, 0, 0, ([] : List (S61)), ([] : List (S25)), false)))) = some (r1, r2, r3, r4, r5, r6) := H
  have A2 := Aside0.mk A20
  clear A20
  replace H := Option.bind_eq_some_iff.mp H
  obtain ⟨⟨t269, t270, t271, t272, t275, t278, t279, t280⟩, A30, H⟩ := H
  replace H : (if t278 = true then ((spec_reader_blanks.f k t279 t280).bind fun bt282 => (if bt282.2 = (a0.size : Int) then (some (t269, t270, t271, t272, t275, true)) else (some (0, 0, 0, ([] : List (S61)), ([] : List (S25)), false)))) else (some (0, 0, 0, ([] : List (S61)), ([] : List (S25)), false))) = some (r1, r2, r3, r4, r5, r6) := H
  have A3 := Aside0.mk A30
  clear A30
  by_cases c4 : t278 = true
  · subst c4
    have H1 : ((spec_reader_blanks.f k t279 t280).bind fun bt282 => (if bt282.2 = (a0.size : Int) then (some (t269, t270, t271, t272, t275, true)) else (some (0, 0, 0, ([] : List (S61)), ([] : List (S25)), false)))) = some (r1, r2, r3, r4, r5, r6) := by rw [if_pos rfl] at H; exact H
    clear H
    have H := H1
    clear H1
    replace H := Option.bind_eq_some_iff.mp H
    obtain ⟨⟨t282, t283⟩, A50, H⟩ := H
    replace H : (if t283 = (a0.size : Int) then (some (t269, t270, t271, t272, t275, true)) else (some (0, 0, 0, ([] : List (S61)), ([] : List (S25)), false))) = some (r1, r2, r3, r4, r5, r6) := H
    have A5 := Aside0.mk A50
    clear A50
    by_cases c6 : t283 = (a0.size : Int)
    · rw [if_pos c6] at H
      have c6b0 : (t283 == (a0.size : Int)) = true := beq_iff_eq.mpr c6
      have c6b1 : (t283 != (a0.size : Int)) = false := bne_eq_false_iff_eq.mpr c6
      clear c6
      simp only [Option.some.injEq, Prod.mk.injEq] at H
      obtain ⟨rfl, rfl, rfl, rfl, rfl, rfl⟩ := H
      go_enter Try.func9, Try.ntmps9
      go_wp2_with (first | ((with_reducible refine gate_dst (N := 2) rfl ?_); refine box_event ?hg (N := 2) ?hd (cs := #[.int .i64 0, .int .i64 0, .int .i64 0, .slice none 0 0, .slice none 0 0]) (t := 25) ?hr ?_; (case hd => rfl); (case hg => rfl); (case hr => first | (go_simp; done) | (go_simp; rfl)); intro gb265 hg w7 hbox hb; have n0_ := Aside0.mk (below_step (by repeat (first | (with_reducible first | exact HB.out | apply below_alloc | apply pw_below_drewN | apply below_drew1) | exact HB.out)) hb); have n1_ := Aside0.mk (hbox); have n2_ := Aside0.mk ((by rw [hg]; exact (below_size (by repeat (first | (with_reducible first | exact HB.out | apply below_alloc | apply pw_below_drewN | apply below_drew1) | exact HB.out))) : w.heap.size ≤ gb265)); have n3_ := Aside0.mk ((by rw [hg]; exact (below_size (by repeat (first | (with_reducible first | exact HB.out | apply below_alloc | apply pw_below_drewN | apply below_drew1) | exact HB.out))) : w.heap.size ≤ gb265)); clear HB; have HB := n0_; have BK265 := n1_; have GW265 := n2_; have GE265 := n3_; clear n0_ n1_ n2_ n3_; clear hb hbox hg) | ((with_reducible refine gate_dst (N := 4) rfl ?_); refine box_event ?hg (N := 4) ?hd (cs := #[.string (⟨#[]⟩ : ByteArray), .int .i64 0]) (t := 42) ?hr ?_; (case hd => rfl); (case hg => rfl); (case hr => first | (go_simp; done) | (go_simp; rfl)); intro gb266 hg w8 hbox hb; have n0_ := Aside0.mk (blk_below (g := gb265) (o := .cells #[.int .i64 0, .int .i64 0, .int .i64 0, .slice none 0 0, .slice none 0 0] 25 (0, 0)) (by (with_reducible repeat (first | refine blk_drewN ?_ _ | refine blk_drew ?_ | refine blk_alloc ?_ _)); exact BK265.out) hb); have n1_ := Aside0.mk (below_step (by repeat (first | (with_reducible first | exact HB.out | apply below_alloc | apply pw_below_drewN | apply below_drew1 | refine below_set ?_ GE265.out) | exact HB.out)) hb); have n2_ := Aside0.mk ((by rw [hg]; exact (below_size (by repeat (first | (with_reducible first | exact HB.out | apply below_alloc | apply pw_below_drewN | apply below_drew1 | refine below_set ?_ GE265.out) | exact HB.out))) : w.heap.size ≤ gb266)); have n3_ := Aside0.mk ((by rw [hg]; exact (below_size (by repeat (first | (with_reducible first | exact HB.out | apply below_alloc | apply pw_below_drewN | apply below_drew1 | refine below_set ?_ GE265.out) | exact HB.out))) : w.heap.size ≤ gb266)); have n4_ := Aside0.mk ((by rw [hg]; exact Nat.ne_of_lt (blk_lt (g := gb265) (o := .cells #[.int .i64 0, .int .i64 0, .int .i64 0, .slice none 0 0, .slice none 0 0] 25 (0, 0)) (by (with_reducible repeat (first | refine blk_drewN ?_ _ | refine blk_drew ?_ | refine blk_alloc ?_ _)); exact BK265.out)) : gb265 ≠ gb266)); have n5_ := Aside0.mk ((by rw [hg]; exact Nat.ne_of_gt (blk_lt (g := gb265) (o := .cells #[.int .i64 0, .int .i64 0, .int .i64 0, .slice none 0 0, .slice none 0 0] 25 (0, 0)) (by (with_reducible repeat (first | refine blk_drewN ?_ _ | refine blk_drew ?_ | refine blk_alloc ?_ _)); exact BK265.out)) : gb266 ≠ gb265)); have n6_ := Aside0.mk (IsS42.of_blk (⟨#[]⟩ : ByteArray) 0 hbox (by rw [hg]; exact (below_size (by repeat (first | (with_reducible first | exact HB.out | apply below_alloc | apply pw_below_drewN | apply below_drew1 | refine below_set ?_ GE265.out) | exact HB.out))) : w.heap.size ≤ gb266)); clear BK265; clear HB; have BK265 := n0_; have HB := n1_; have GW266 := n2_; have GE266 := n3_; have NB265_266 := n4_; have NB266_265 := n5_; have HI266 := n6_; clear n0_ n1_ n2_ n3_ n4_ n5_ n6_; clear hb hbox hg; obtain ⟨HGz9, hgz9⟩ := HI266.out; have hcz9_0 := cellS42_0 HGz9; have hcz9_1 := cellS42_1 HGz9; have hfz9_0 := blk_frozen HGz9 0; have hfz9_1 := blk_frozen HGz9 1; clear HGz9 hgz9) | ((with_reducible refine gate_callee (f := 23) rfl ?_); refine goesL_ (some 9) rfl rfl Try.func23 (by kernel_rfl) rfl #[.pointer (some ⟨gb266, 0, none⟩)] rfl (by (try simp only [List.map_toArray, List.map_cons, List.map_nil]); first | done | rfl | (simp only [List.length_drop, List.length_take]; rfl)) ?_; (with_reducible refine (spec_reader_blanks.calls k gb266 a0 0 t267 t268 w _ ?side1 ?side2 A2.out).mono ?_); (case side1 => repeat (first | (with_reducible first | exact HI266.out | apply IsS42.alloc | apply IsS42.drewN | apply IsS42.drew | apply IsS42.set_0 | apply IsS42.set_1 | refine IsS42.far ?_ NB266_265.out _) | exact HI266.out)); (case side2 => repeat (first | (with_reducible first | exact HB.out | apply below_alloc | apply pw_below_drewN | apply below_drew1 | refine below_set ?_ (IsS42.ge HI266.out) | refine below_set ?_ GE265.out) | exact HB.out)); rintro e w10 ⟨rfl, hi, hb, hk⟩; refine ⟨_, rfl, ?_⟩; have n0_ := Aside0.mk (KeepBut.blk hk (g' := gb265) (o := .cells #[.int .i64 0, .int .i64 0, .int .i64 0, .slice none 0 0, .slice none 0 0] 25 (0, 0)) (by (with_reducible repeat (first | refine blk_drewN ?_ _ | refine blk_drew ?_ | refine blk_alloc ?_ _)); refine blk_far ?_ NB265_266.out _; (with_reducible repeat (first | refine blk_drewN ?_ _ | refine blk_drew ?_ | refine blk_alloc ?_ _)); refine blk_far ?_ NB265_266.out _; (with_reducible repeat (first | refine blk_drewN ?_ _ | refine blk_drew ?_ | refine blk_alloc ?_ _)); exact BK265.out) NB265_266.out (by simp)); have n1_ := Aside0.mk (hb); have n2_ := Aside0.mk (hi); clear BK265; clear HB; clear HI266; have BK265 := n0_; have HB := n1_; have HI266 := n2_; clear n0_ n1_ n2_; (try clear hb); (try clear hb2); (try clear hk); (try clear hi)) | ((with_reducible refine gate_callee (f := 24) rfl ?_); refine goesL_ (some 11) rfl rfl Try.func24 (by kernel_rfl) rfl #[.pointer (some ⟨gb266, 0, none⟩)] rfl (by (try simp only [List.map_toArray, List.map_cons, List.map_nil]); first | done | rfl | (simp only [List.length_drop, List.length_take]; rfl)) ?_; (with_reducible refine (spec_reader_value.calls k gb266 t267 t268 t269 t270 t271 t272 t275 true t279 t280 w _ ?side1 ?side2 A3.out).mono ?_); (case side1 => repeat (first | (with_reducible first | exact HI266.out | apply IsS42.alloc | apply IsS42.drewN | apply IsS42.drew | apply IsS42.set_0 | apply IsS42.set_1 | refine IsS42.far ?_ NB266_265.out _) | exact HI266.out)); (case side2 => repeat (first | (with_reducible first | exact HB.out | apply below_alloc | apply pw_below_drewN | apply below_drew1 | refine below_set ?_ (IsS42.ge HI266.out) | refine below_set ?_ GE265.out) | exact HB.out)); rintro e w11 ⟨v273, v276, rfl, ho0, ho1, hi, hb, hk⟩; refine ⟨_, rfl, ?_⟩; have n0_ := Aside0.mk (KeepBut.blk hk (g' := gb265) (o := .cells #[.int .i64 0, .int .i64 0, .int .i64 0, .slice none 0 0, .slice none 0 0] 25 (0, 0)) (by (with_reducible repeat (first | refine blk_drewN ?_ _ | refine blk_drew ?_ | refine blk_alloc ?_ _)); exact BK265.out) NB265_266.out (by simp)); have n1_ := Aside0.mk (Kd.R_lower ho0 (below_size (by repeat (first | (with_reducible first | exact HB.out | apply below_alloc | apply pw_below_drewN | apply below_drew1 | refine below_set ?_ (IsS42.ge HI266.out) | refine below_set ?_ GE265.out) | exact HB.out)))); have n2_ := Aside0.mk (Kd.R_lower (Kd.R_newB ho1 (g := gb265) (o := .cells #[.int .i64 0, .int .i64 0, .int .i64 0, .slice none 0 0, .slice none 0 0] 25 (0, 0)) (by (with_reducible repeat (first | refine blk_drewN ?_ _ | refine blk_drew ?_ | refine blk_alloc ?_ _)); exact BK265.out)) (below_size (by repeat (first | (with_reducible first | exact HB.out | apply below_alloc | apply pw_below_drewN | apply below_drew1 | refine below_set ?_ (IsS42.ge HI266.out) | refine below_set ?_ GE265.out) | exact HB.out)))); have n3_ := Aside0.mk (hb); have n4_ := Aside0.mk (hi); clear BK265; clear HB; clear HI266; have BK265 := n0_; have HO274 := n1_; have HO277 := n2_; have HB := n3_; have HI266 := n4_; clear n0_ n1_ n2_ n3_ n4_; (try clear hb); (try clear hb2); (try clear hk); (try clear hi); (try clear ho0); (try clear ho1)) | ((with_reducible refine gate_dst (N := 5) rfl ?_); refine box_event ?hg (N := 5) ?hd (cs := #[.int .i64 0, .int .i64 0, .int .i64 0, .slice none 0 0, .slice none 0 0]) (t := 25) ?hr ?_; (case hd => rfl); (case hg => rfl); (case hr => first | (go_simp; done) | (go_simp; rfl)); intro gb281 hg w12 hbox hb; have n0_ := Aside0.mk (Kd.R_below (by (with_reducible repeat (first | apply Kd.R_alloc | apply Kd.R_drewN | apply Kd.R_drew)); exact HO274.out) hb); have n1_ := Aside0.mk (Kd.R_below (Kd.R_elderB (by (with_reducible repeat (first | apply Kd.R_alloc | apply Kd.R_drewN | apply Kd.R_drew)); exact HO277.out) gb281 (Nat.le_of_eq hg.symm)) hb); have n2_ := Aside0.mk (blk_below (g := gb265) (o := .cells #[.int .i64 0, .int .i64 0, .int .i64 0, .slice none 0 0, .slice none 0 0] 25 (0, 0)) (by (with_reducible repeat (first | refine blk_drewN ?_ _ | refine blk_drew ?_ | refine blk_alloc ?_ _)); exact BK265.out) hb); have n3_ := Aside0.mk (IsS42.below (by repeat (first | (with_reducible first | exact HI266.out | apply IsS42.alloc | apply IsS42.drewN | apply IsS42.drew | apply IsS42.set_0 | apply IsS42.set_1 | refine IsS42.far ?_ NB266_265.out _) | exact HI266.out)) hb); have n4_ := Aside0.mk (below_step (by repeat (first | (with_reducible first | exact HB.out | apply below_alloc | apply pw_below_drewN | apply below_drew1 | refine below_set ?_ (IsS42.ge HI266.out) | refine below_set ?_ GE265.out) | exact HB.out)) hb); have n5_ := Aside0.mk (hbox); have n6_ := Aside0.mk ((by rw [hg]; exact (below_size (by repeat (first | (with_reducible first | exact HB.out | apply below_alloc | apply pw_below_drewN | apply below_drew1 | refine below_set ?_ (IsS42.ge HI266.out) | refine below_set ?_ GE265.out) | exact HB.out))) : w.heap.size ≤ gb281)); have n7_ := Aside0.mk ((by rw [hg]; exact (below_size (by repeat (first | (with_reducible first | exact HB.out | apply below_alloc | apply pw_below_drewN | apply below_drew1 | refine below_set ?_ (IsS42.ge HI266.out) | refine below_set ?_ GE265.out) | exact HB.out))) : w.heap.size ≤ gb281)); have n8_ := Aside0.mk ((by rw [hg]; exact Nat.ne_of_lt (blk_lt (g := gb265) (o := .cells #[.int .i64 0, .int .i64 0, .int .i64 0, .slice none 0 0, .slice none 0 0] 25 (0, 0)) (by (with_reducible repeat (first | refine blk_drewN ?_ _ | refine blk_drew ?_ | refine blk_alloc ?_ _)); exact BK265.out)) : gb265 ≠ gb281)); have n9_ := Aside0.mk ((by rw [hg]; exact Nat.ne_of_gt (blk_lt (g := gb265) (o := .cells #[.int .i64 0, .int .i64 0, .int .i64 0, .slice none 0 0, .slice none 0 0] 25 (0, 0)) (by (with_reducible repeat (first | refine blk_drewN ?_ _ | refine blk_drew ?_ | refine blk_alloc ?_ _)); exact BK265.out)) : gb281 ≠ gb265)); have n10_ := Aside0.mk ((by rw [hg]; exact Nat.ne_of_lt (IsS42.lt (show IsS42 w _ gb266 t279 t280 from by repeat (first | (with_reducible first | exact HI266.out | apply IsS42.alloc | apply IsS42.drewN | apply IsS42.drew | apply IsS42.set_0 | apply IsS42.set_1 | refine IsS42.far ?_ NB266_265.out _) | exact HI266.out))) : gb266 ≠ gb281)); have n11_ := Aside0.mk ((by rw [hg]; exact Nat.ne_of_gt (IsS42.lt (show IsS42 w _ gb266 t279 t280 from by repeat (first | (with_reducible first | exact HI266.out | apply IsS42.alloc | apply IsS42.drewN | apply IsS42.drew | apply IsS42.set_0 | apply IsS42.set_1 | refine IsS42.far ?_ NB266_265.out _) | exact HI266.out))) : gb281 ≠ gb266)); clear HO274; clear HO277; clear BK265; clear HI266; clear HB; have HO274 := n0_; have HO277 := n1_; have BK265 := n2_; have HI266 := n3_; have HB := n4_; have BK281 := n5_; have GW281 := n6_; have GE281 := n7_; have NB265_281 := n8_; have NB281_265 := n9_; have NB266_281 := n10_; have NB281_266 := n11_; clear n0_ n1_ n2_ n3_ n4_ n5_ n6_ n7_ n8_ n9_ n10_ n11_; clear hb hbox hg; have hnb13 := NB281_265.out; have hnc13 := NB265_281.out; have hnb14 := NB281_266.out; have hnc14 := NB266_281.out; have hcz15_0 : w12.cell? ⟨gb281, 0, none⟩ = some (.int .i64 0) := (blk_cell BK281.out 0).trans rfl; have hcz15_1 : w12.cell? ⟨gb281, 1, none⟩ = some (.int .i64 0) := (blk_cell BK281.out 1).trans rfl; have hcz15_2 : w12.cell? ⟨gb281, 2, none⟩ = some (.int .i64 0) := (blk_cell BK281.out 2).trans rfl; have hcz15_3 : w12.cell? ⟨gb281, 3, none⟩ = some (.slice none 0 0) := (blk_cell BK281.out 3).trans rfl; have hcz15_4 : w12.cell? ⟨gb281, 4, none⟩ = some (.slice none 0 0) := (blk_cell BK281.out 4).trans rfl; have hfz15_0 := blk_frozen BK281.out 0; have hfz15_1 := blk_frozen BK281.out 1; have hfz15_2 := blk_frozen BK281.out 2; have hfz15_3 := blk_frozen BK281.out 3; have hfz15_4 := blk_frozen BK281.out 4; obtain ⟨Ao16, co16, eo16⟩ := Kd.R_slice HO274.out; subst eo16; obtain ⟨Ao17, co17, eo17⟩ := Kd.R_slice HO277.out; subst eo17) | ((with_reducible refine gate_callee (f := 23) rfl ?_); refine goesL_ (some 17) rfl rfl Try.func23 (by kernel_rfl) rfl #[.pointer (some ⟨gb266, 0, none⟩)] rfl (by (try simp only [List.map_toArray, List.map_cons, List.map_nil]); first | done | rfl | (simp only [List.length_drop, List.length_take]; rfl)) ?_; (with_reducible refine (spec_reader_blanks.calls k gb266 t279 t280 t282 t283 w _ ?side1 ?side2 A5.out).mono ?_); (case side1 => repeat (first | (with_reducible first | exact HI266.out | apply IsS42.alloc | apply IsS42.drewN | apply IsS42.drew | apply IsS42.set_0 | apply IsS42.set_1 | refine IsS42.far ?_ NB266_265.out _ | refine IsS42.far ?_ NB266_281.out _) | exact HI266.out)); (case side2 => repeat (first | (with_reducible first | exact HB.out | apply below_alloc | apply pw_below_drewN | apply below_drew1 | refine below_set ?_ (IsS42.ge HI266.out) | refine below_set ?_ GE265.out | refine below_set ?_ GE281.out) | exact HB.out)); rintro e w18 ⟨rfl, hi, hb, hk⟩; refine ⟨_, rfl, ?_⟩; have n0_ := Aside0.mk (KeepBut.blk hk (g' := gb265) (o := .cells #[.int .i64 0, .int .i64 0, .int .i64 0, .slice none 0 0, .slice none 0 0] 25 (0, 0)) (by (with_reducible repeat (first | refine blk_drewN ?_ _ | refine blk_drew ?_ | refine blk_alloc ?_ _)); refine blk_far ?_ NB265_281.out _; (with_reducible repeat (first | refine blk_drewN ?_ _ | refine blk_drew ?_ | refine blk_alloc ?_ _)); refine blk_far ?_ NB265_281.out _; (with_reducible repeat (first | refine blk_drewN ?_ _ | refine blk_drew ?_ | refine blk_alloc ?_ _)); refine blk_far ?_ NB265_281.out _; (with_reducible repeat (first | refine blk_drewN ?_ _ | refine blk_drew ?_ | refine blk_alloc ?_ _)); refine blk_far ?_ NB265_281.out _; (with_reducible repeat (first | refine blk_drewN ?_ _ | refine blk_drew ?_ | refine blk_alloc ?_ _)); refine blk_far ?_ NB265_281.out _; (with_reducible repeat (first | refine blk_drewN ?_ _ | refine blk_drew ?_ | refine blk_alloc ?_ _)); exact BK265.out) NB265_266.out (by simp)); have n1_ := Aside0.mk (Kd.R_mono (Kd.R_keep (IsS42.apart (show IsS42 w _ gb266 t279 t280 from by repeat (first | (with_reducible first | exact HI266.out | apply IsS42.alloc | apply IsS42.drewN | apply IsS42.drew | apply IsS42.set_0 | apply IsS42.set_1 | refine IsS42.far ?_ NB266_265.out _ | refine IsS42.far ?_ NB266_281.out _) | exact HI266.out)) (by (with_reducible repeat (first | apply Kd.R_alloc | apply Kd.R_drewN | apply Kd.R_drew)); exact (Kd.R_mono (Kd.R_far (p := ⟨gb281, 4, none⟩) (Kd.R_far (p := ⟨gb281, 3, none⟩) (Kd.R_far (p := ⟨gb281, 2, none⟩) (Kd.R_far (p := ⟨gb281, 1, none⟩) (Kd.R_far (p := ⟨gb281, 0, none⟩) (Kd.R_types HO274.out BK281.out (by decide)) (fun _ hk => hk.2) (.int .i64 t269)) (fun _ hk => hk.2) (.int .i64 t270)) (fun _ hk => hk.2) (.int .i64 t271)) (fun _ hk => hk.2) (.slice Ao16 t272.length co16)) (fun _ hk => hk.2) (.slice Ao17 t275.length co17)) (fun _ h_ => h_.1))) (by decide)) hk (fun _ h => h.2)) (fun _ h => h.1)); have n2_ := Aside0.mk (Kd.R_mono (Kd.R_keep (IsS42.apart (show IsS42 w _ gb266 t279 t280 from by repeat (first | (with_reducible first | exact HI266.out | apply IsS42.alloc | apply IsS42.drewN | apply IsS42.drew | apply IsS42.set_0 | apply IsS42.set_1 | refine IsS42.far ?_ NB266_265.out _ | refine IsS42.far ?_ NB266_281.out _) | exact HI266.out)) (by (with_reducible repeat (first | apply Kd.R_alloc | apply Kd.R_drewN | apply Kd.R_drew)); exact (Kd.R_mono (Kd.R_far (p := ⟨gb281, 4, none⟩) (Kd.R_far (p := ⟨gb281, 3, none⟩) (Kd.R_far (p := ⟨gb281, 2, none⟩) (Kd.R_far (p := ⟨gb281, 1, none⟩) (Kd.R_far (p := ⟨gb281, 0, none⟩) (Kd.R_mono HO277.out (fun k_ hk => (⟨hk, hk.2⟩ : _ ∧ k_ ≠ gb281))) (fun _ hk => hk.2) (.int .i64 t269)) (fun _ hk => hk.2) (.int .i64 t270)) (fun _ hk => hk.2) (.int .i64 t271)) (fun _ hk => hk.2) (.slice Ao16 t272.length co16)) (fun _ hk => hk.2) (.slice Ao17 t275.length co17)) (fun _ h_ => h_.1))) (by decide)) hk (fun _ h => h.2)) (fun _ h => h.1)); have n3_ := Aside0.mk (KeepBut.blk hk (g' := gb281) (o := .cells #[.int .i64 t269, .int .i64 t270, .int .i64 t271, .slice Ao16 t272.length co16, .slice Ao17 t275.length co17] 25 (0, 0)) (by (with_reducible repeat (first | refine blk_drewN ?_ _ | refine blk_drew ?_ | refine blk_alloc ?_ _)); refine blk_put (cs := #[.int .i64 t269, .int .i64 t270, .int .i64 t271, .slice Ao16 t272.length co16, .slice none 0 0]) ?_ 4 _ rfl; (with_reducible repeat (first | refine blk_drewN ?_ _ | refine blk_drew ?_ | refine blk_alloc ?_ _)); refine blk_put (cs := #[.int .i64 t269, .int .i64 t270, .int .i64 t271, .slice none 0 0, .slice none 0 0]) ?_ 3 _ rfl; (with_reducible repeat (first | refine blk_drewN ?_ _ | refine blk_drew ?_ | refine blk_alloc ?_ _)); refine blk_put (cs := #[.int .i64 t269, .int .i64 t270, .int .i64 0, .slice none 0 0, .slice none 0 0]) ?_ 2 _ rfl; (with_reducible repeat (first | refine blk_drewN ?_ _ | refine blk_drew ?_ | refine blk_alloc ?_ _)); refine blk_put (cs := #[.int .i64 t269, .int .i64 0, .int .i64 0, .slice none 0 0, .slice none 0 0]) ?_ 1 _ rfl; (with_reducible repeat (first | refine blk_drewN ?_ _ | refine blk_drew ?_ | refine blk_alloc ?_ _)); refine blk_put (cs := #[.int .i64 0, .int .i64 0, .int .i64 0, .slice none 0 0, .slice none 0 0]) ?_ 0 _ rfl; (with_reducible repeat (first | refine blk_drewN ?_ _ | refine blk_drew ?_ | refine blk_alloc ?_ _)); exact BK281.out) NB281_266.out (by simp)); have n4_ := Aside0.mk (hb); have n5_ := Aside0.mk (hi); clear BK265; clear HO274; clear HO277; clear BK281; clear HB; clear HI266; have BK265 := n0_; have HO274 := n1_; have HO277 := n2_; have BK281 := n3_; have HB := n4_; have HI266 := n5_; clear n0_ n1_ n2_ n3_ n4_ n5_; (try clear hb); (try clear hb2); (try clear hk); (try clear hi); obtain ⟨HGz19, hgz19⟩ := HI266.out; have hcz19_0 := cellS42_0 HGz19; have hcz19_1 := cellS42_1 HGz19; have hfz19_0 := blk_frozen HGz19 0; have hfz19_1 := blk_frozen HGz19 1; clear HGz19 hgz19; have hcz20_0 : w18.cell? ⟨gb281, 0, none⟩ = some (.int .i64 t269) := (blk_cell BK281.out 0).trans rfl; have hcz20_1 : w18.cell? ⟨gb281, 1, none⟩ = some (.int .i64 t270) := (blk_cell BK281.out 1).trans rfl; have hcz20_2 : w18.cell? ⟨gb281, 2, none⟩ = some (.int .i64 t271) := (blk_cell BK281.out 2).trans rfl; have hcz20_3 : w18.cell? ⟨gb281, 3, none⟩ = some (.slice Ao16 t272.length co16) := (blk_cell BK281.out 3).trans rfl; have hcz20_4 : w18.cell? ⟨gb281, 4, none⟩ = some (.slice Ao17 t275.length co17) := (blk_cell BK281.out 4).trans rfl; have hfz20_0 := blk_frozen BK281.out 0; have hfz20_1 := blk_frozen BK281.out 1; have hfz20_2 := blk_frozen BK281.out 2; have hfz20_3 := blk_frozen BK281.out 3; have hfz20_4 := blk_frozen BK281.out 4; have hnb21 := NB265_266.out; have hnc21 := NB266_265.out; have hcz22_0 : w18.cell? ⟨gb265, 0, none⟩ = some (.int .i64 0) := (blk_cell BK265.out 0).trans rfl; have hcz22_1 : w18.cell? ⟨gb265, 1, none⟩ = some (.int .i64 0) := (blk_cell BK265.out 1).trans rfl; have hcz22_2 : w18.cell? ⟨gb265, 2, none⟩ = some (.int .i64 0) := (blk_cell BK265.out 2).trans rfl; have hcz22_3 : w18.cell? ⟨gb265, 3, none⟩ = some (.slice none 0 0) := (blk_cell BK265.out 3).trans rfl; have hcz22_4 : w18.cell? ⟨gb265, 4, none⟩ = some (.slice none 0 0) := (blk_cell BK265.out 4).trans rfl; have hfz22_0 := blk_frozen BK265.out 0; have hfz22_1 := blk_frozen BK265.out 1; have hfz22_2 := blk_frozen BK265.out 2; have hfz22_3 := blk_frozen BK265.out 3; have hfz22_4 := blk_frozen BK265.out 4))
      refine bodyPost_ret (results_ct rfl _ _ gb265 25 #[.int .i64 t269, .int .i64 t270, .int .i64 t271, .slice Ao16 t272.length co16, .slice Ao17 t275.length co17] (0, 0) _ rfl (by (with_reducible repeat (first | refine blk_drewN ?_ _ | refine blk_drew ?_ | refine blk_alloc ?_ _)); refine blk_put (cs := #[.int .i64 t269, .int .i64 t270, .int .i64 t271, .slice Ao16 t272.length co16, .slice none 0 0]) ?_ 4 _ rfl; (with_reducible repeat (first | refine blk_drewN ?_ _ | refine blk_drew ?_ | refine blk_alloc ?_ _)); refine blk_put (cs := #[.int .i64 t269, .int .i64 t270, .int .i64 t271, .slice none 0 0, .slice none 0 0]) ?_ 3 _ rfl; (with_reducible repeat (first | refine blk_drewN ?_ _ | refine blk_drew ?_ | refine blk_alloc ?_ _)); refine blk_put (cs := #[.int .i64 t269, .int .i64 t270, .int .i64 0, .slice none 0 0, .slice none 0 0]) ?_ 2 _ rfl; (with_reducible repeat (first | refine blk_drewN ?_ _ | refine blk_drew ?_ | refine blk_alloc ?_ _)); refine blk_put (cs := #[.int .i64 t269, .int .i64 0, .int .i64 0, .slice none 0 0, .slice none 0 0]) ?_ 1 _ rfl; (with_reducible repeat (first | refine blk_drewN ?_ _ | refine blk_drew ?_ | refine blk_alloc ?_ _)); refine blk_put (cs := #[.int .i64 0, .int .i64 0, .int .i64 0, .slice none 0 0, .slice none 0 0]) ?_ 0 _ rfl; (with_reducible repeat (first | refine blk_drewN ?_ _ | refine blk_drew ?_ | refine blk_alloc ?_ _)); exact BK265.out) Try.underlying25 rfl (by kernel_rfl)) rfl ?_
      exact ⟨_, _, by first | rfl | (simp [errW_none, errW_some] <;> rfl) | (simp [*, errW_none, errW_some] <;> rfl), by (with_reducible repeat (first | apply Kd.R_alloc | apply Kd.R_drewN | apply Kd.R_drew)); exact Kd.R_mono (Kd.R_far (p := ⟨gb265, 4, none⟩) (Kd.R_far (p := ⟨gb265, 3, none⟩) (Kd.R_far (p := ⟨gb265, 2, none⟩) (Kd.R_far (p := ⟨gb265, 1, none⟩) (Kd.R_far (p := ⟨gb265, 0, none⟩) (Kd.R_types HO274.out BK265.out (by decide)) (fun _ hk => hk.2) (.int .i64 t269)) (fun _ hk => hk.2) (.int .i64 t270)) (fun _ hk => hk.2) (.int .i64 t271)) (fun _ hk => hk.2) (.slice Ao16 t272.length co16)) (fun _ hk => hk.2) (.slice Ao17 t275.length co17)) (fun _ hk => trivial), by (with_reducible repeat (first | apply Kd.R_alloc | apply Kd.R_drewN | apply Kd.R_drew)); exact Kd.R_mono (Kd.R_far (p := ⟨gb265, 4, none⟩) (Kd.R_far (p := ⟨gb265, 3, none⟩) (Kd.R_far (p := ⟨gb265, 2, none⟩) (Kd.R_far (p := ⟨gb265, 1, none⟩) (Kd.R_far (p := ⟨gb265, 0, none⟩) (Kd.R_mono HO277.out (fun k_ hk => (⟨hk, hk.1.2⟩ : _ ∧ k_ ≠ gb265))) (fun _ hk => hk.2) (.int .i64 t269)) (fun _ hk => hk.2) (.int .i64 t270)) (fun _ hk => hk.2) (.int .i64 t271)) (fun _ hk => hk.2) (.slice Ao16 t272.length co16)) (fun _ hk => hk.2) (.slice Ao17 t275.length co17)) (fun _ hk => hk.1.1.1), by repeat (first | (with_reducible first | exact HB.out | apply below_alloc | apply pw_below_drewN | apply below_drew1 | refine below_set ?_ (IsS42.ge HI266.out) | refine below_set ?_ GE265.out | refine below_set ?_ GE281.out) | exact HB.out)⟩
    · rw [if_neg c6] at H
      have c6b0 : (t283 == (a0.size : Int)) = false := beq_eq_false_iff_ne.mpr c6
      have c6b1 : (t283 != (a0.size : Int)) = true := bne_iff_ne.mpr c6
      simp only [Option.some.injEq, Prod.mk.injEq] at H
      obtain ⟨rfl, rfl, rfl, rfl, rfl, rfl⟩ := H
      go_enter Try.func9, Try.ntmps9
      go_wp2_with (first | ((with_reducible refine gate_dst (N := 2) rfl ?_); refine box_event ?hg (N := 2) ?hd (cs := #[.int .i64 0, .int .i64 0, .int .i64 0, .slice none 0 0, .slice none 0 0]) (t := 25) ?hr ?_; (case hd => rfl); (case hg => rfl); (case hr => first | (go_simp; done) | (go_simp; rfl)); intro gb265 hg w23 hbox hb; have n0_ := Aside0.mk (below_step (by repeat (first | (with_reducible first | exact HB.out | apply below_alloc | apply pw_below_drewN | apply below_drew1) | exact HB.out)) hb); have n1_ := Aside0.mk (hbox); have n2_ := Aside0.mk ((by rw [hg]; exact (below_size (by repeat (first | (with_reducible first | exact HB.out | apply below_alloc | apply pw_below_drewN | apply below_drew1) | exact HB.out))) : w.heap.size ≤ gb265)); have n3_ := Aside0.mk ((by rw [hg]; exact (below_size (by repeat (first | (with_reducible first | exact HB.out | apply below_alloc | apply pw_below_drewN | apply below_drew1) | exact HB.out))) : w.heap.size ≤ gb265)); clear HB; have HB := n0_; have BK265 := n1_; have GW265 := n2_; have GE265 := n3_; clear n0_ n1_ n2_ n3_; clear hb hbox hg) | ((with_reducible refine gate_dst (N := 4) rfl ?_); refine box_event ?hg (N := 4) ?hd (cs := #[.string (⟨#[]⟩ : ByteArray), .int .i64 0]) (t := 42) ?hr ?_; (case hd => rfl); (case hg => rfl); (case hr => first | (go_simp; done) | (go_simp; rfl)); intro gb266 hg w24 hbox hb; have n0_ := Aside0.mk (blk_below (g := gb265) (o := .cells #[.int .i64 0, .int .i64 0, .int .i64 0, .slice none 0 0, .slice none 0 0] 25 (0, 0)) (by (with_reducible repeat (first | refine blk_drewN ?_ _ | refine blk_drew ?_ | refine blk_alloc ?_ _)); exact BK265.out) hb); have n1_ := Aside0.mk (below_step (by repeat (first | (with_reducible first | exact HB.out | apply below_alloc | apply pw_below_drewN | apply below_drew1 | refine below_set ?_ GE265.out) | exact HB.out)) hb); have n2_ := Aside0.mk ((by rw [hg]; exact (below_size (by repeat (first | (with_reducible first | exact HB.out | apply below_alloc | apply pw_below_drewN | apply below_drew1 | refine below_set ?_ GE265.out) | exact HB.out))) : w.heap.size ≤ gb266)); have n3_ := Aside0.mk ((by rw [hg]; exact (below_size (by repeat (first | (with_reducible first | exact HB.out | apply below_alloc | apply pw_below_drewN | apply below_drew1 | refine below_set ?_ GE265.out) | exact HB.out))) : w.heap.size ≤ gb266)); have n4_ := Aside0.mk ((by rw [hg]; exact Nat.ne_of_lt (blk_lt (g := gb265) (o := .cells #[.int .i64 0, .int .i64 0, .int .i64 0, .slice none 0 0, .slice none 0 0] 25 (0, 0)) (by (with_reducible repeat (first | refine blk_drewN ?_ _ | refine blk_drew ?_ | refine blk_alloc ?_ _)); exact BK265.out)) : gb265 ≠ gb266)); have n5_ := Aside0.mk ((by rw [hg]; exact Nat.ne_of_gt (blk_lt (g := gb265) (o := .cells #[.int .i64 0, .int .i64 0, .int .i64 0, .slice none 0 0, .slice none 0 0] 25 (0, 0)) (by (with_reducible repeat (first | refine blk_drewN ?_ _ | refine blk_drew ?_ | refine blk_alloc ?_ _)); exact BK265.out)) : gb266 ≠ gb265)); have n6_ := Aside0.mk (IsS42.of_blk (⟨#[]⟩ : ByteArray) 0 hbox (by rw [hg]; exact (below_size (by repeat (first | (with_reducible first | exact HB.out | apply below_alloc | apply pw_below_drewN | apply below_drew1 | refine below_set ?_ GE265.out) | exact HB.out))) : w.heap.size ≤ gb266)); clear BK265; clear HB; have BK265 := n0_; have HB := n1_; have GW266 := n2_; have GE266 := n3_; have NB265_266 := n4_; have NB266_265 := n5_; have HI266 := n6_; clear n0_ n1_ n2_ n3_ n4_ n5_ n6_; clear hb hbox hg; obtain ⟨HGz25, hgz25⟩ := HI266.out; have hcz25_0 := cellS42_0 HGz25; have hcz25_1 := cellS42_1 HGz25; have hfz25_0 := blk_frozen HGz25 0; have hfz25_1 := blk_frozen HGz25 1; clear HGz25 hgz25) | ((with_reducible refine gate_callee (f := 23) rfl ?_); refine goesL_ (some 9) rfl rfl Try.func23 (by kernel_rfl) rfl #[.pointer (some ⟨gb266, 0, none⟩)] rfl (by (try simp only [List.map_toArray, List.map_cons, List.map_nil]); first | done | rfl | (simp only [List.length_drop, List.length_take]; rfl)) ?_; (with_reducible refine (spec_reader_blanks.calls k gb266 a0 0 t267 t268 w _ ?side1 ?side2 A2.out).mono ?_); (case side1 => repeat (first | (with_reducible first | exact HI266.out | apply IsS42.alloc | apply IsS42.drewN | apply IsS42.drew | apply IsS42.set_0 | apply IsS42.set_1 | refine IsS42.far ?_ NB266_265.out _) | exact HI266.out)); (case side2 => repeat (first | (with_reducible first | exact HB.out | apply below_alloc | apply pw_below_drewN | apply below_drew1 | refine below_set ?_ (IsS42.ge HI266.out) | refine below_set ?_ GE265.out) | exact HB.out)); rintro e w26 ⟨rfl, hi, hb, hk⟩; refine ⟨_, rfl, ?_⟩; have n0_ := Aside0.mk (KeepBut.blk hk (g' := gb265) (o := .cells #[.int .i64 0, .int .i64 0, .int .i64 0, .slice none 0 0, .slice none 0 0] 25 (0, 0)) (by (with_reducible repeat (first | refine blk_drewN ?_ _ | refine blk_drew ?_ | refine blk_alloc ?_ _)); refine blk_far ?_ NB265_266.out _; (with_reducible repeat (first | refine blk_drewN ?_ _ | refine blk_drew ?_ | refine blk_alloc ?_ _)); refine blk_far ?_ NB265_266.out _; (with_reducible repeat (first | refine blk_drewN ?_ _ | refine blk_drew ?_ | refine blk_alloc ?_ _)); exact BK265.out) NB265_266.out (by simp)); have n1_ := Aside0.mk (hb); have n2_ := Aside0.mk (hi); clear BK265; clear HB; clear HI266; have BK265 := n0_; have HB := n1_; have HI266 := n2_; clear n0_ n1_ n2_; (try clear hb); (try clear hb2); (try clear hk); (try clear hi)) | ((with_reducible refine gate_callee (f := 24) rfl ?_); refine goesL_ (some 11) rfl rfl Try.func24 (by kernel_rfl) rfl #[.pointer (some ⟨gb266, 0, none⟩)] rfl (by (try simp only [List.map_toArray, List.map_cons, List.map_nil]); first | done | rfl | (simp only [List.length_drop, List.length_take]; rfl)) ?_; (with_reducible refine (spec_reader_value.calls k gb266 t267 t268 t269 t270 t271 t272 t275 true t279 t280 w _ ?side1 ?side2 A3.out).mono ?_); (case side1 => repeat (first | (with_reducible first | exact HI266.out | apply IsS42.alloc | apply IsS42.drewN | apply IsS42.drew | apply IsS42.set_0 | apply IsS42.set_1 | refine IsS42.far ?_ NB266_265.out _) | exact HI266.out)); (case side2 => repeat (first | (with_reducible first | exact HB.out | apply below_alloc | apply pw_below_drewN | apply below_drew1 | refine below_set ?_ (IsS42.ge HI266.out) | refine below_set ?_ GE265.out) | exact HB.out)); rintro e w27 ⟨v273, v276, rfl, ho0, ho1, hi, hb, hk⟩; refine ⟨_, rfl, ?_⟩; have n0_ := Aside0.mk (KeepBut.blk hk (g' := gb265) (o := .cells #[.int .i64 0, .int .i64 0, .int .i64 0, .slice none 0 0, .slice none 0 0] 25 (0, 0)) (by (with_reducible repeat (first | refine blk_drewN ?_ _ | refine blk_drew ?_ | refine blk_alloc ?_ _)); exact BK265.out) NB265_266.out (by simp)); have n1_ := Aside0.mk (Kd.R_lower ho0 (below_size (by repeat (first | (with_reducible first | exact HB.out | apply below_alloc | apply pw_below_drewN | apply below_drew1 | refine below_set ?_ (IsS42.ge HI266.out) | refine below_set ?_ GE265.out) | exact HB.out)))); have n2_ := Aside0.mk (Kd.R_lower (Kd.R_newB ho1 (g := gb265) (o := .cells #[.int .i64 0, .int .i64 0, .int .i64 0, .slice none 0 0, .slice none 0 0] 25 (0, 0)) (by (with_reducible repeat (first | refine blk_drewN ?_ _ | refine blk_drew ?_ | refine blk_alloc ?_ _)); exact BK265.out)) (below_size (by repeat (first | (with_reducible first | exact HB.out | apply below_alloc | apply pw_below_drewN | apply below_drew1 | refine below_set ?_ (IsS42.ge HI266.out) | refine below_set ?_ GE265.out) | exact HB.out)))); have n3_ := Aside0.mk (hb); have n4_ := Aside0.mk (hi); clear BK265; clear HB; clear HI266; have BK265 := n0_; have HO274 := n1_; have HO277 := n2_; have HB := n3_; have HI266 := n4_; clear n0_ n1_ n2_ n3_ n4_; (try clear hb); (try clear hb2); (try clear hk); (try clear hi); (try clear ho0); (try clear ho1)) | ((with_reducible refine gate_dst (N := 5) rfl ?_); refine box_event ?hg (N := 5) ?hd (cs := #[.int .i64 0, .int .i64 0, .int .i64 0, .slice none 0 0, .slice none 0 0]) (t := 25) ?hr ?_; (case hd => rfl); (case hg => rfl); (case hr => first | (go_simp; done) | (go_simp; rfl)); intro gb281 hg w28 hbox hb; have n0_ := Aside0.mk (Kd.R_below (by (with_reducible repeat (first | apply Kd.R_alloc | apply Kd.R_drewN | apply Kd.R_drew)); exact HO274.out) hb); have n1_ := Aside0.mk (Kd.R_below (Kd.R_elderB (by (with_reducible repeat (first | apply Kd.R_alloc | apply Kd.R_drewN | apply Kd.R_drew)); exact HO277.out) gb281 (Nat.le_of_eq hg.symm)) hb); have n2_ := Aside0.mk (blk_below (g := gb265) (o := .cells #[.int .i64 0, .int .i64 0, .int .i64 0, .slice none 0 0, .slice none 0 0] 25 (0, 0)) (by (with_reducible repeat (first | refine blk_drewN ?_ _ | refine blk_drew ?_ | refine blk_alloc ?_ _)); exact BK265.out) hb); have n3_ := Aside0.mk (IsS42.below (by repeat (first | (with_reducible first | exact HI266.out | apply IsS42.alloc | apply IsS42.drewN | apply IsS42.drew | apply IsS42.set_0 | apply IsS42.set_1 | refine IsS42.far ?_ NB266_265.out _) | exact HI266.out)) hb); have n4_ := Aside0.mk (below_step (by repeat (first | (with_reducible first | exact HB.out | apply below_alloc | apply pw_below_drewN | apply below_drew1 | refine below_set ?_ (IsS42.ge HI266.out) | refine below_set ?_ GE265.out) | exact HB.out)) hb); have n5_ := Aside0.mk (hbox); have n6_ := Aside0.mk ((by rw [hg]; exact (below_size (by repeat (first | (with_reducible first | exact HB.out | apply below_alloc | apply pw_below_drewN | apply below_drew1 | refine below_set ?_ (IsS42.ge HI266.out) | refine below_set ?_ GE265.out) | exact HB.out))) : w.heap.size ≤ gb281)); have n7_ := Aside0.mk ((by rw [hg]; exact (below_size (by repeat (first | (with_reducible first | exact HB.out | apply below_alloc | apply pw_below_drewN | apply below_drew1 | refine below_set ?_ (IsS42.ge HI266.out) | refine below_set ?_ GE265.out) | exact HB.out))) : w.heap.size ≤ gb281)); have n8_ := Aside0.mk ((by rw [hg]; exact Nat.ne_of_lt (blk_lt (g := gb265) (o := .cells #[.int .i64 0, .int .i64 0, .int .i64 0, .slice none 0 0, .slice none 0 0] 25 (0, 0)) (by (with_reducible repeat (first | refine blk_drewN ?_ _ | refine blk_drew ?_ | refine blk_alloc ?_ _)); exact BK265.out)) : gb265 ≠ gb281)); have n9_ := Aside0.mk ((by rw [hg]; exact Nat.ne_of_gt (blk_lt (g := gb265) (o := .cells #[.int .i64 0, .int .i64 0, .int .i64 0, .slice none 0 0, .slice none 0 0] 25 (0, 0)) (by (with_reducible repeat (first | refine blk_drewN ?_ _ | refine blk_drew ?_ | refine blk_alloc ?_ _)); exact BK265.out)) : gb281 ≠ gb265)); have n10_ := Aside0.mk ((by rw [hg]; exact Nat.ne_of_lt (IsS42.lt (show IsS42 w _ gb266 t279 t280 from by repeat (first | (with_reducible first | exact HI266.out | apply IsS42.alloc | apply IsS42.drewN | apply IsS42.drew | apply IsS42.set_0 | apply IsS42.set_1 | refine IsS42.far ?_ NB266_265.out _) | exact HI266.out))) : gb266 ≠ gb281)); have n11_ := Aside0.mk ((by rw [hg]; exact Nat.ne_of_gt (IsS42.lt (show IsS42 w _ gb266 t279 t280 from by repeat (first | (with_reducible first | exact HI266.out | apply IsS42.alloc | apply IsS42.drewN | apply IsS42.drew | apply IsS42.set_0 | apply IsS42.set_1 | refine IsS42.far ?_ NB266_265.out _) | exact HI266.out))) : gb281 ≠ gb266)); clear HO274; clear HO277; clear BK265; clear HI266; clear HB; have HO274 := n0_; have HO277 := n1_; have BK265 := n2_; have HI266 := n3_; have HB := n4_; have BK281 := n5_; have GW281 := n6_; have GE281 := n7_; have NB265_281 := n8_; have NB281_265 := n9_; have NB266_281 := n10_; have NB281_266 := n11_; clear n0_ n1_ n2_ n3_ n4_ n5_ n6_ n7_ n8_ n9_ n10_ n11_; clear hb hbox hg; have hnb29 := NB281_265.out; have hnc29 := NB265_281.out; have hnb30 := NB281_266.out; have hnc30 := NB266_281.out; have hcz31_0 : w28.cell? ⟨gb281, 0, none⟩ = some (.int .i64 0) := (blk_cell BK281.out 0).trans rfl; have hcz31_1 : w28.cell? ⟨gb281, 1, none⟩ = some (.int .i64 0) := (blk_cell BK281.out 1).trans rfl; have hcz31_2 : w28.cell? ⟨gb281, 2, none⟩ = some (.int .i64 0) := (blk_cell BK281.out 2).trans rfl; have hcz31_3 : w28.cell? ⟨gb281, 3, none⟩ = some (.slice none 0 0) := (blk_cell BK281.out 3).trans rfl; have hcz31_4 : w28.cell? ⟨gb281, 4, none⟩ = some (.slice none 0 0) := (blk_cell BK281.out 4).trans rfl; have hfz31_0 := blk_frozen BK281.out 0; have hfz31_1 := blk_frozen BK281.out 1; have hfz31_2 := blk_frozen BK281.out 2; have hfz31_3 := blk_frozen BK281.out 3; have hfz31_4 := blk_frozen BK281.out 4; obtain ⟨Ao32, co32, eo32⟩ := Kd.R_slice HO274.out; subst eo32; obtain ⟨Ao33, co33, eo33⟩ := Kd.R_slice HO277.out; subst eo33) | ((with_reducible refine gate_callee (f := 23) rfl ?_); refine goesL_ (some 17) rfl rfl Try.func23 (by kernel_rfl) rfl #[.pointer (some ⟨gb266, 0, none⟩)] rfl (by (try simp only [List.map_toArray, List.map_cons, List.map_nil]); first | done | rfl | (simp only [List.length_drop, List.length_take]; rfl)) ?_; (with_reducible refine (spec_reader_blanks.calls k gb266 t279 t280 t282 t283 w _ ?side1 ?side2 A5.out).mono ?_); (case side1 => repeat (first | (with_reducible first | exact HI266.out | apply IsS42.alloc | apply IsS42.drewN | apply IsS42.drew | apply IsS42.set_0 | apply IsS42.set_1 | refine IsS42.far ?_ NB266_265.out _ | refine IsS42.far ?_ NB266_281.out _) | exact HI266.out)); (case side2 => repeat (first | (with_reducible first | exact HB.out | apply below_alloc | apply pw_below_drewN | apply below_drew1 | refine below_set ?_ (IsS42.ge HI266.out) | refine below_set ?_ GE265.out | refine below_set ?_ GE281.out) | exact HB.out)); rintro e w34 ⟨rfl, hi, hb, hk⟩; refine ⟨_, rfl, ?_⟩; have n0_ := Aside0.mk (KeepBut.blk hk (g' := gb265) (o := .cells #[.int .i64 0, .int .i64 0, .int .i64 0, .slice none 0 0, .slice none 0 0] 25 (0, 0)) (by (with_reducible repeat (first | refine blk_drewN ?_ _ | refine blk_drew ?_ | refine blk_alloc ?_ _)); refine blk_far ?_ NB265_281.out _; (with_reducible repeat (first | refine blk_drewN ?_ _ | refine blk_drew ?_ | refine blk_alloc ?_ _)); refine blk_far ?_ NB265_281.out _; (with_reducible repeat (first | refine blk_drewN ?_ _ | refine blk_drew ?_ | refine blk_alloc ?_ _)); refine blk_far ?_ NB265_281.out _; (with_reducible repeat (first | refine blk_drewN ?_ _ | refine blk_drew ?_ | refine blk_alloc ?_ _)); refine blk_far ?_ NB265_281.out _; (with_reducible repeat (first | refine blk_drewN ?_ _ | refine blk_drew ?_ | refine blk_alloc ?_ _)); refine blk_far ?_ NB265_281.out _; (with_reducible repeat (first | refine blk_drewN ?_ _ | refine blk_drew ?_ | refine blk_alloc ?_ _)); exact BK265.out) NB265_266.out (by simp)); have n1_ := Aside0.mk (Kd.R_mono (Kd.R_keep (IsS42.apart (show IsS42 w _ gb266 t279 t280 from by repeat (first | (with_reducible first | exact HI266.out | apply IsS42.alloc | apply IsS42.drewN | apply IsS42.drew | apply IsS42.set_0 | apply IsS42.set_1 | refine IsS42.far ?_ NB266_265.out _ | refine IsS42.far ?_ NB266_281.out _) | exact HI266.out)) (by (with_reducible repeat (first | apply Kd.R_alloc | apply Kd.R_drewN | apply Kd.R_drew)); exact (Kd.R_mono (Kd.R_far (p := ⟨gb281, 4, none⟩) (Kd.R_far (p := ⟨gb281, 3, none⟩) (Kd.R_far (p := ⟨gb281, 2, none⟩) (Kd.R_far (p := ⟨gb281, 1, none⟩) (Kd.R_far (p := ⟨gb281, 0, none⟩) (Kd.R_types HO274.out BK281.out (by decide)) (fun _ hk => hk.2) (.int .i64 t269)) (fun _ hk => hk.2) (.int .i64 t270)) (fun _ hk => hk.2) (.int .i64 t271)) (fun _ hk => hk.2) (.slice Ao32 t272.length co32)) (fun _ hk => hk.2) (.slice Ao33 t275.length co33)) (fun _ h_ => h_.1))) (by decide)) hk (fun _ h => h.2)) (fun _ h => h.1)); have n2_ := Aside0.mk (Kd.R_mono (Kd.R_keep (IsS42.apart (show IsS42 w _ gb266 t279 t280 from by repeat (first | (with_reducible first | exact HI266.out | apply IsS42.alloc | apply IsS42.drewN | apply IsS42.drew | apply IsS42.set_0 | apply IsS42.set_1 | refine IsS42.far ?_ NB266_265.out _ | refine IsS42.far ?_ NB266_281.out _) | exact HI266.out)) (by (with_reducible repeat (first | apply Kd.R_alloc | apply Kd.R_drewN | apply Kd.R_drew)); exact (Kd.R_mono (Kd.R_far (p := ⟨gb281, 4, none⟩) (Kd.R_far (p := ⟨gb281, 3, none⟩) (Kd.R_far (p := ⟨gb281, 2, none⟩) (Kd.R_far (p := ⟨gb281, 1, none⟩) (Kd.R_far (p := ⟨gb281, 0, none⟩) (Kd.R_mono HO277.out (fun k_ hk => (⟨hk, hk.2⟩ : _ ∧ k_ ≠ gb281))) (fun _ hk => hk.2) (.int .i64 t269)) (fun _ hk => hk.2) (.int .i64 t270)) (fun _ hk => hk.2) (.int .i64 t271)) (fun _ hk => hk.2) (.slice Ao32 t272.length co32)) (fun _ hk => hk.2) (.slice Ao33 t275.length co33)) (fun _ h_ => h_.1))) (by decide)) hk (fun _ h => h.2)) (fun _ h => h.1)); have n3_ := Aside0.mk (KeepBut.blk hk (g' := gb281) (o := .cells #[.int .i64 t269, .int .i64 t270, .int .i64 t271, .slice Ao32 t272.length co32, .slice Ao33 t275.length co33] 25 (0, 0)) (by (with_reducible repeat (first | refine blk_drewN ?_ _ | refine blk_drew ?_ | refine blk_alloc ?_ _)); refine blk_put (cs := #[.int .i64 t269, .int .i64 t270, .int .i64 t271, .slice Ao32 t272.length co32, .slice none 0 0]) ?_ 4 _ rfl; (with_reducible repeat (first | refine blk_drewN ?_ _ | refine blk_drew ?_ | refine blk_alloc ?_ _)); refine blk_put (cs := #[.int .i64 t269, .int .i64 t270, .int .i64 t271, .slice none 0 0, .slice none 0 0]) ?_ 3 _ rfl; (with_reducible repeat (first | refine blk_drewN ?_ _ | refine blk_drew ?_ | refine blk_alloc ?_ _)); refine blk_put (cs := #[.int .i64 t269, .int .i64 t270, .int .i64 0, .slice none 0 0, .slice none 0 0]) ?_ 2 _ rfl; (with_reducible repeat (first | refine blk_drewN ?_ _ | refine blk_drew ?_ | refine blk_alloc ?_ _)); refine blk_put (cs := #[.int .i64 t269, .int .i64 0, .int .i64 0, .slice none 0 0, .slice none 0 0]) ?_ 1 _ rfl; (with_reducible repeat (first | refine blk_drewN ?_ _ | refine blk_drew ?_ | refine blk_alloc ?_ _)); refine blk_put (cs := #[.int .i64 0, .int .i64 0, .int .i64 0, .slice none 0 0, .slice none 0 0]) ?_ 0 _ rfl; (with_reducible repeat (first | refine blk_drewN ?_ _ | refine blk_drew ?_ | refine blk_alloc ?_ _)); exact BK281.out) NB281_266.out (by simp)); have n4_ := Aside0.mk (hb); have n5_ := Aside0.mk (hi); clear BK265; clear HO274; clear HO277; clear BK281; clear HB; clear HI266; have BK265 := n0_; have HO274 := n1_; have HO277 := n2_; have BK281 := n3_; have HB := n4_; have HI266 := n5_; clear n0_ n1_ n2_ n3_ n4_ n5_; (try clear hb); (try clear hb2); (try clear hk); (try clear hi); obtain ⟨HGz35, hgz35⟩ := HI266.out; have hcz35_0 := cellS42_0 HGz35; have hcz35_1 := cellS42_1 HGz35; have hfz35_0 := blk_frozen HGz35 0; have hfz35_1 := blk_frozen HGz35 1; clear HGz35 hgz35; have hnb36 := NB265_266.out; have hnc36 := NB266_265.out; have hcz37_0 : w34.cell? ⟨gb265, 0, none⟩ = some (.int .i64 0) := (blk_cell BK265.out 0).trans rfl; have hcz37_1 : w34.cell? ⟨gb265, 1, none⟩ = some (.int .i64 0) := (blk_cell BK265.out 1).trans rfl; have hcz37_2 : w34.cell? ⟨gb265, 2, none⟩ = some (.int .i64 0) := (blk_cell BK265.out 2).trans rfl; have hcz37_3 : w34.cell? ⟨gb265, 3, none⟩ = some (.slice none 0 0) := (blk_cell BK265.out 3).trans rfl; have hcz37_4 : w34.cell? ⟨gb265, 4, none⟩ = some (.slice none 0 0) := (blk_cell BK265.out 4).trans rfl; have hfz37_0 := blk_frozen BK265.out 0; have hfz37_1 := blk_frozen BK265.out 1; have hfz37_2 := blk_frozen BK265.out 2; have hfz37_3 := blk_frozen BK265.out 3; have hfz37_4 := blk_frozen BK265.out 4))
      refine bodyPost_ret (results_ct rfl _ _ gb265 25 #[.int .i64 0, .int .i64 0, .int .i64 0, .slice none 0 0, .slice none 0 0] (0, 0) _ rfl (by (with_reducible repeat (first | refine blk_drewN ?_ _ | refine blk_drew ?_ | refine blk_alloc ?_ _)); refine blk_put (cs := #[.int .i64 0, .int .i64 0, .int .i64 0, .slice none 0 0, .slice none 0 0]) ?_ 4 _ rfl; (with_reducible repeat (first | refine blk_drewN ?_ _ | refine blk_drew ?_ | refine blk_alloc ?_ _)); refine blk_put (cs := #[.int .i64 0, .int .i64 0, .int .i64 0, .slice none 0 0, .slice none 0 0]) ?_ 3 _ rfl; (with_reducible repeat (first | refine blk_drewN ?_ _ | refine blk_drew ?_ | refine blk_alloc ?_ _)); refine blk_put (cs := #[.int .i64 0, .int .i64 0, .int .i64 0, .slice none 0 0, .slice none 0 0]) ?_ 2 _ rfl; (with_reducible repeat (first | refine blk_drewN ?_ _ | refine blk_drew ?_ | refine blk_alloc ?_ _)); refine blk_put (cs := #[.int .i64 0, .int .i64 0, .int .i64 0, .slice none 0 0, .slice none 0 0]) ?_ 1 _ rfl; (with_reducible repeat (first | refine blk_drewN ?_ _ | refine blk_drew ?_ | refine blk_alloc ?_ _)); refine blk_put (cs := #[.int .i64 0, .int .i64 0, .int .i64 0, .slice none 0 0, .slice none 0 0]) ?_ 0 _ rfl; (with_reducible repeat (first | refine blk_drewN ?_ _ | refine blk_drew ?_ | refine blk_alloc ?_ _)); exact BK265.out) Try.underlying25 rfl (by kernel_rfl)) rfl ?_
      exact ⟨_, _, by first | rfl | (simp [errW_none, errW_some] <;> rfl) | (simp [*, errW_none, errW_some] <;> rfl), by first | exact Kd.R_nil _ _ _ _ _ | exact Kd.N_nil _ _ _ _ _ | exact Kd.V_nil _ _ _ _ _ | exact Kd.Q_nil _ _ _ _ _ | exact Kd.S_nil _ _ _ _ _, by first | exact Kd.R_nil _ _ _ _ _ | exact Kd.N_nil _ _ _ _ _ | exact Kd.V_nil _ _ _ _ _ | exact Kd.Q_nil _ _ _ _ _ | exact Kd.S_nil _ _ _ _ _, by repeat (first | (with_reducible first | exact HB.out | apply below_alloc | apply pw_below_drewN | apply below_drew1 | refine below_set ?_ (IsS42.ge HI266.out) | refine below_set ?_ GE265.out | refine below_set ?_ GE281.out) | exact HB.out)⟩
  · replace c4 := Bool.eq_false_iff.mpr c4
    subst c4
    have H1 : (some (0, 0, 0, ([] : List (S61)), ([] : List (S25)), false)) = some (r1, r2, r3, r4, r5, r6) := by rw [if_neg (show ¬ (false = true) by decide)] at H; exact H
    clear H
    have H := H1
    clear H1
    simp only [Option.some.injEq, Prod.mk.injEq] at H
    obtain ⟨rfl, rfl, rfl, rfl, rfl, rfl⟩ := H
    go_enter Try.func9, Try.ntmps9
    go_wp2_with (first | ((with_reducible refine gate_dst (N := 2) rfl ?_); refine box_event ?hg (N := 2) ?hd (cs := #[.int .i64 0, .int .i64 0, .int .i64 0, .slice none 0 0, .slice none 0 0]) (t := 25) ?hr ?_; (case hd => rfl); (case hg => rfl); (case hr => first | (go_simp; done) | (go_simp; rfl)); intro gb265 hg w38 hbox hb; have n0_ := Aside0.mk (below_step (by repeat (first | (with_reducible first | exact HB.out | apply below_alloc | apply pw_below_drewN | apply below_drew1) | exact HB.out)) hb); have n1_ := Aside0.mk (hbox); have n2_ := Aside0.mk ((by rw [hg]; exact (below_size (by repeat (first | (with_reducible first | exact HB.out | apply below_alloc | apply pw_below_drewN | apply below_drew1) | exact HB.out))) : w.heap.size ≤ gb265)); have n3_ := Aside0.mk ((by rw [hg]; exact (below_size (by repeat (first | (with_reducible first | exact HB.out | apply below_alloc | apply pw_below_drewN | apply below_drew1) | exact HB.out))) : w.heap.size ≤ gb265)); clear HB; have HB := n0_; have BK265 := n1_; have GW265 := n2_; have GE265 := n3_; clear n0_ n1_ n2_ n3_; clear hb hbox hg) | ((with_reducible refine gate_dst (N := 4) rfl ?_); refine box_event ?hg (N := 4) ?hd (cs := #[.string (⟨#[]⟩ : ByteArray), .int .i64 0]) (t := 42) ?hr ?_; (case hd => rfl); (case hg => rfl); (case hr => first | (go_simp; done) | (go_simp; rfl)); intro gb266 hg w39 hbox hb; have n0_ := Aside0.mk (blk_below (g := gb265) (o := .cells #[.int .i64 0, .int .i64 0, .int .i64 0, .slice none 0 0, .slice none 0 0] 25 (0, 0)) (by (with_reducible repeat (first | refine blk_drewN ?_ _ | refine blk_drew ?_ | refine blk_alloc ?_ _)); exact BK265.out) hb); have n1_ := Aside0.mk (below_step (by repeat (first | (with_reducible first | exact HB.out | apply below_alloc | apply pw_below_drewN | apply below_drew1 | refine below_set ?_ GE265.out) | exact HB.out)) hb); have n2_ := Aside0.mk ((by rw [hg]; exact (below_size (by repeat (first | (with_reducible first | exact HB.out | apply below_alloc | apply pw_below_drewN | apply below_drew1 | refine below_set ?_ GE265.out) | exact HB.out))) : w.heap.size ≤ gb266)); have n3_ := Aside0.mk ((by rw [hg]; exact (below_size (by repeat (first | (with_reducible first | exact HB.out | apply below_alloc | apply pw_below_drewN | apply below_drew1 | refine below_set ?_ GE265.out) | exact HB.out))) : w.heap.size ≤ gb266)); have n4_ := Aside0.mk ((by rw [hg]; exact Nat.ne_of_lt (blk_lt (g := gb265) (o := .cells #[.int .i64 0, .int .i64 0, .int .i64 0, .slice none 0 0, .slice none 0 0] 25 (0, 0)) (by (with_reducible repeat (first | refine blk_drewN ?_ _ | refine blk_drew ?_ | refine blk_alloc ?_ _)); exact BK265.out)) : gb265 ≠ gb266)); have n5_ := Aside0.mk ((by rw [hg]; exact Nat.ne_of_gt (blk_lt (g := gb265) (o := .cells #[.int .i64 0, .int .i64 0, .int .i64 0, .slice none 0 0, .slice none 0 0] 25 (0, 0)) (by (with_reducible repeat (first | refine blk_drewN ?_ _ | refine blk_drew ?_ | refine blk_alloc ?_ _)); exact BK265.out)) : gb266 ≠ gb265)); have n6_ := Aside0.mk (IsS42.of_blk (⟨#[]⟩ : ByteArray) 0 hbox (by rw [hg]; exact (below_size (by repeat (first | (with_reducible first | exact HB.out | apply below_alloc | apply pw_below_drewN | apply below_drew1 | refine below_set ?_ GE265.out) | exact HB.out))) : w.heap.size ≤ gb266)); clear BK265; clear HB; have BK265 := n0_; have HB := n1_; have GW266 := n2_; have GE266 := n3_; have NB265_266 := n4_; have NB266_265 := n5_; have HI266 := n6_; clear n0_ n1_ n2_ n3_ n4_ n5_ n6_; clear hb hbox hg; obtain ⟨HGz40, hgz40⟩ := HI266.out; have hcz40_0 := cellS42_0 HGz40; have hcz40_1 := cellS42_1 HGz40; have hfz40_0 := blk_frozen HGz40 0; have hfz40_1 := blk_frozen HGz40 1; clear HGz40 hgz40) | ((with_reducible refine gate_callee (f := 23) rfl ?_); refine goesL_ (some 9) rfl rfl Try.func23 (by kernel_rfl) rfl #[.pointer (some ⟨gb266, 0, none⟩)] rfl (by (try simp only [List.map_toArray, List.map_cons, List.map_nil]); first | done | rfl | (simp only [List.length_drop, List.length_take]; rfl)) ?_; (with_reducible refine (spec_reader_blanks.calls k gb266 a0 0 t267 t268 w _ ?side1 ?side2 A2.out).mono ?_); (case side1 => repeat (first | (with_reducible first | exact HI266.out | apply IsS42.alloc | apply IsS42.drewN | apply IsS42.drew | apply IsS42.set_0 | apply IsS42.set_1 | refine IsS42.far ?_ NB266_265.out _) | exact HI266.out)); (case side2 => repeat (first | (with_reducible first | exact HB.out | apply below_alloc | apply pw_below_drewN | apply below_drew1 | refine below_set ?_ (IsS42.ge HI266.out) | refine below_set ?_ GE265.out) | exact HB.out)); rintro e w41 ⟨rfl, hi, hb, hk⟩; refine ⟨_, rfl, ?_⟩; have n0_ := Aside0.mk (KeepBut.blk hk (g' := gb265) (o := .cells #[.int .i64 0, .int .i64 0, .int .i64 0, .slice none 0 0, .slice none 0 0] 25 (0, 0)) (by (with_reducible repeat (first | refine blk_drewN ?_ _ | refine blk_drew ?_ | refine blk_alloc ?_ _)); refine blk_far ?_ NB265_266.out _; (with_reducible repeat (first | refine blk_drewN ?_ _ | refine blk_drew ?_ | refine blk_alloc ?_ _)); refine blk_far ?_ NB265_266.out _; (with_reducible repeat (first | refine blk_drewN ?_ _ | refine blk_drew ?_ | refine blk_alloc ?_ _)); exact BK265.out) NB265_266.out (by simp)); have n1_ := Aside0.mk (hb); have n2_ := Aside0.mk (hi); clear BK265; clear HB; clear HI266; have BK265 := n0_; have HB := n1_; have HI266 := n2_; clear n0_ n1_ n2_; (try clear hb); (try clear hb2); (try clear hk); (try clear hi)) | ((with_reducible refine gate_callee (f := 24) rfl ?_); refine goesL_ (some 11) rfl rfl Try.func24 (by kernel_rfl) rfl #[.pointer (some ⟨gb266, 0, none⟩)] rfl (by (try simp only [List.map_toArray, List.map_cons, List.map_nil]); first | done | rfl | (simp only [List.length_drop, List.length_take]; rfl)) ?_; (with_reducible refine (spec_reader_value.calls k gb266 t267 t268 t269 t270 t271 t272 t275 false t279 t280 w _ ?side1 ?side2 A3.out).mono ?_); (case side1 => repeat (first | (with_reducible first | exact HI266.out | apply IsS42.alloc | apply IsS42.drewN | apply IsS42.drew | apply IsS42.set_0 | apply IsS42.set_1 | refine IsS42.far ?_ NB266_265.out _) | exact HI266.out)); (case side2 => repeat (first | (with_reducible first | exact HB.out | apply below_alloc | apply pw_below_drewN | apply below_drew1 | refine below_set ?_ (IsS42.ge HI266.out) | refine below_set ?_ GE265.out) | exact HB.out)); rintro e w42 ⟨v273, v276, rfl, ho0, ho1, hi, hb, hk⟩; refine ⟨_, rfl, ?_⟩; have n0_ := Aside0.mk (KeepBut.blk hk (g' := gb265) (o := .cells #[.int .i64 0, .int .i64 0, .int .i64 0, .slice none 0 0, .slice none 0 0] 25 (0, 0)) (by (with_reducible repeat (first | refine blk_drewN ?_ _ | refine blk_drew ?_ | refine blk_alloc ?_ _)); exact BK265.out) NB265_266.out (by simp)); have n1_ := Aside0.mk (Kd.R_lower ho0 (below_size (by repeat (first | (with_reducible first | exact HB.out | apply below_alloc | apply pw_below_drewN | apply below_drew1 | refine below_set ?_ (IsS42.ge HI266.out) | refine below_set ?_ GE265.out) | exact HB.out)))); have n2_ := Aside0.mk (Kd.R_lower (Kd.R_newB ho1 (g := gb265) (o := .cells #[.int .i64 0, .int .i64 0, .int .i64 0, .slice none 0 0, .slice none 0 0] 25 (0, 0)) (by (with_reducible repeat (first | refine blk_drewN ?_ _ | refine blk_drew ?_ | refine blk_alloc ?_ _)); exact BK265.out)) (below_size (by repeat (first | (with_reducible first | exact HB.out | apply below_alloc | apply pw_below_drewN | apply below_drew1 | refine below_set ?_ (IsS42.ge HI266.out) | refine below_set ?_ GE265.out) | exact HB.out)))); have n3_ := Aside0.mk (hb); have n4_ := Aside0.mk (hi); clear BK265; clear HB; clear HI266; have BK265 := n0_; have HO274 := n1_; have HO277 := n2_; have HB := n3_; have HI266 := n4_; clear n0_ n1_ n2_ n3_ n4_; (try clear hb); (try clear hb2); (try clear hk); (try clear hi); (try clear ho0); (try clear ho1)) | ((with_reducible refine gate_dst (N := 5) rfl ?_); refine box_event ?hg (N := 5) ?hd (cs := #[.int .i64 0, .int .i64 0, .int .i64 0, .slice none 0 0, .slice none 0 0]) (t := 25) ?hr ?_; (case hd => rfl); (case hg => rfl); (case hr => first | (go_simp; done) | (go_simp; rfl)); intro gb281 hg w43 hbox hb; have n0_ := Aside0.mk (Kd.R_below (by (with_reducible repeat (first | apply Kd.R_alloc | apply Kd.R_drewN | apply Kd.R_drew)); exact HO274.out) hb); have n1_ := Aside0.mk (Kd.R_below (Kd.R_elderB (by (with_reducible repeat (first | apply Kd.R_alloc | apply Kd.R_drewN | apply Kd.R_drew)); exact HO277.out) gb281 (Nat.le_of_eq hg.symm)) hb); have n2_ := Aside0.mk (blk_below (g := gb265) (o := .cells #[.int .i64 0, .int .i64 0, .int .i64 0, .slice none 0 0, .slice none 0 0] 25 (0, 0)) (by (with_reducible repeat (first | refine blk_drewN ?_ _ | refine blk_drew ?_ | refine blk_alloc ?_ _)); exact BK265.out) hb); have n3_ := Aside0.mk (IsS42.below (by repeat (first | (with_reducible first | exact HI266.out | apply IsS42.alloc | apply IsS42.drewN | apply IsS42.drew | apply IsS42.set_0 | apply IsS42.set_1 | refine IsS42.far ?_ NB266_265.out _) | exact HI266.out)) hb); have n4_ := Aside0.mk (below_step (by repeat (first | (with_reducible first | exact HB.out | apply below_alloc | apply pw_below_drewN | apply below_drew1 | refine below_set ?_ (IsS42.ge HI266.out) | refine below_set ?_ GE265.out) | exact HB.out)) hb); have n5_ := Aside0.mk (hbox); have n6_ := Aside0.mk ((by rw [hg]; exact (below_size (by repeat (first | (with_reducible first | exact HB.out | apply below_alloc | apply pw_below_drewN | apply below_drew1 | refine below_set ?_ (IsS42.ge HI266.out) | refine below_set ?_ GE265.out) | exact HB.out))) : w.heap.size ≤ gb281)); have n7_ := Aside0.mk ((by rw [hg]; exact (below_size (by repeat (first | (with_reducible first | exact HB.out | apply below_alloc | apply pw_below_drewN | apply below_drew1 | refine below_set ?_ (IsS42.ge HI266.out) | refine below_set ?_ GE265.out) | exact HB.out))) : w.heap.size ≤ gb281)); have n8_ := Aside0.mk ((by rw [hg]; exact Nat.ne_of_lt (blk_lt (g := gb265) (o := .cells #[.int .i64 0, .int .i64 0, .int .i64 0, .slice none 0 0, .slice none 0 0] 25 (0, 0)) (by (with_reducible repeat (first | refine blk_drewN ?_ _ | refine blk_drew ?_ | refine blk_alloc ?_ _)); exact BK265.out)) : gb265 ≠ gb281)); have n9_ := Aside0.mk ((by rw [hg]; exact Nat.ne_of_gt (blk_lt (g := gb265) (o := .cells #[.int .i64 0, .int .i64 0, .int .i64 0, .slice none 0 0, .slice none 0 0] 25 (0, 0)) (by (with_reducible repeat (first | refine blk_drewN ?_ _ | refine blk_drew ?_ | refine blk_alloc ?_ _)); exact BK265.out)) : gb281 ≠ gb265)); have n10_ := Aside0.mk ((by rw [hg]; exact Nat.ne_of_lt (IsS42.lt (show IsS42 w _ gb266 t279 t280 from by repeat (first | (with_reducible first | exact HI266.out | apply IsS42.alloc | apply IsS42.drewN | apply IsS42.drew | apply IsS42.set_0 | apply IsS42.set_1 | refine IsS42.far ?_ NB266_265.out _) | exact HI266.out))) : gb266 ≠ gb281)); have n11_ := Aside0.mk ((by rw [hg]; exact Nat.ne_of_gt (IsS42.lt (show IsS42 w _ gb266 t279 t280 from by repeat (first | (with_reducible first | exact HI266.out | apply IsS42.alloc | apply IsS42.drewN | apply IsS42.drew | apply IsS42.set_0 | apply IsS42.set_1 | refine IsS42.far ?_ NB266_265.out _) | exact HI266.out))) : gb281 ≠ gb266)); clear HO274; clear HO277; clear BK265; clear HI266; clear HB; have HO274 := n0_; have HO277 := n1_; have BK265 := n2_; have HI266 := n3_; have HB := n4_; have BK281 := n5_; have GW281 := n6_; have GE281 := n7_; have NB265_281 := n8_; have NB281_265 := n9_; have NB266_281 := n10_; have NB281_266 := n11_; clear n0_ n1_ n2_ n3_ n4_ n5_ n6_ n7_ n8_ n9_ n10_ n11_; clear hb hbox hg; have hnb44 := NB281_265.out; have hnc44 := NB265_281.out; have hnb45 := NB281_266.out; have hnc45 := NB266_281.out; have hcz46_0 : w43.cell? ⟨gb281, 0, none⟩ = some (.int .i64 0) := (blk_cell BK281.out 0).trans rfl; have hcz46_1 : w43.cell? ⟨gb281, 1, none⟩ = some (.int .i64 0) := (blk_cell BK281.out 1).trans rfl; have hcz46_2 : w43.cell? ⟨gb281, 2, none⟩ = some (.int .i64 0) := (blk_cell BK281.out 2).trans rfl; have hcz46_3 : w43.cell? ⟨gb281, 3, none⟩ = some (.slice none 0 0) := (blk_cell BK281.out 3).trans rfl; have hcz46_4 : w43.cell? ⟨gb281, 4, none⟩ = some (.slice none 0 0) := (blk_cell BK281.out 4).trans rfl; have hfz46_0 := blk_frozen BK281.out 0; have hfz46_1 := blk_frozen BK281.out 1; have hfz46_2 := blk_frozen BK281.out 2; have hfz46_3 := blk_frozen BK281.out 3; have hfz46_4 := blk_frozen BK281.out 4; obtain ⟨Ao47, co47, eo47⟩ := Kd.R_slice HO274.out; subst eo47; obtain ⟨Ao48, co48, eo48⟩ := Kd.R_slice HO277.out; subst eo48; have hnb49 := NB265_266.out; have hnc49 := NB266_265.out; have hcz50_0 : w43.cell? ⟨gb265, 0, none⟩ = some (.int .i64 0) := (blk_cell BK265.out 0).trans rfl; have hcz50_1 : w43.cell? ⟨gb265, 1, none⟩ = some (.int .i64 0) := (blk_cell BK265.out 1).trans rfl; have hcz50_2 : w43.cell? ⟨gb265, 2, none⟩ = some (.int .i64 0) := (blk_cell BK265.out 2).trans rfl; have hcz50_3 : w43.cell? ⟨gb265, 3, none⟩ = some (.slice none 0 0) := (blk_cell BK265.out 3).trans rfl; have hcz50_4 : w43.cell? ⟨gb265, 4, none⟩ = some (.slice none 0 0) := (blk_cell BK265.out 4).trans rfl; have hfz50_0 := blk_frozen BK265.out 0; have hfz50_1 := blk_frozen BK265.out 1; have hfz50_2 := blk_frozen BK265.out 2; have hfz50_3 := blk_frozen BK265.out 3; have hfz50_4 := blk_frozen BK265.out 4))
    refine bodyPost_ret (results_ct rfl _ _ gb265 25 #[.int .i64 0, .int .i64 0, .int .i64 0, .slice none 0 0, .slice none 0 0] (0, 0) _ rfl (by (with_reducible repeat (first | refine blk_drewN ?_ _ | refine blk_drew ?_ | refine blk_alloc ?_ _)); refine blk_put (cs := #[.int .i64 0, .int .i64 0, .int .i64 0, .slice none 0 0, .slice none 0 0]) ?_ 4 _ rfl; (with_reducible repeat (first | refine blk_drewN ?_ _ | refine blk_drew ?_ | refine blk_alloc ?_ _)); refine blk_put (cs := #[.int .i64 0, .int .i64 0, .int .i64 0, .slice none 0 0, .slice none 0 0]) ?_ 3 _ rfl; (with_reducible repeat (first | refine blk_drewN ?_ _ | refine blk_drew ?_ | refine blk_alloc ?_ _)); refine blk_put (cs := #[.int .i64 0, .int .i64 0, .int .i64 0, .slice none 0 0, .slice none 0 0]) ?_ 2 _ rfl; (with_reducible repeat (first | refine blk_drewN ?_ _ | refine blk_drew ?_ | refine blk_alloc ?_ _)); refine blk_put (cs := #[.int .i64 0, .int .i64 0, .int .i64 0, .slice none 0 0, .slice none 0 0]) ?_ 1 _ rfl; (with_reducible repeat (first | refine blk_drewN ?_ _ | refine blk_drew ?_ | refine blk_alloc ?_ _)); refine blk_put (cs := #[.int .i64 0, .int .i64 0, .int .i64 0, .slice none 0 0, .slice none 0 0]) ?_ 0 _ rfl; (with_reducible repeat (first | refine blk_drewN ?_ _ | refine blk_drew ?_ | refine blk_alloc ?_ _)); refine blk_far ?_ NB265_281.out _; (with_reducible repeat (first | refine blk_drewN ?_ _ | refine blk_drew ?_ | refine blk_alloc ?_ _)); refine blk_far ?_ NB265_281.out _; (with_reducible repeat (first | refine blk_drewN ?_ _ | refine blk_drew ?_ | refine blk_alloc ?_ _)); refine blk_far ?_ NB265_281.out _; (with_reducible repeat (first | refine blk_drewN ?_ _ | refine blk_drew ?_ | refine blk_alloc ?_ _)); refine blk_far ?_ NB265_281.out _; (with_reducible repeat (first | refine blk_drewN ?_ _ | refine blk_drew ?_ | refine blk_alloc ?_ _)); refine blk_far ?_ NB265_281.out _; (with_reducible repeat (first | refine blk_drewN ?_ _ | refine blk_drew ?_ | refine blk_alloc ?_ _)); exact BK265.out) Try.underlying25 rfl (by kernel_rfl)) rfl ?_
    exact ⟨_, _, by first | rfl | (simp [errW_none, errW_some] <;> rfl) | (simp [*, errW_none, errW_some] <;> rfl), by first | exact Kd.R_nil _ _ _ _ _ | exact Kd.N_nil _ _ _ _ _ | exact Kd.V_nil _ _ _ _ _ | exact Kd.Q_nil _ _ _ _ _ | exact Kd.S_nil _ _ _ _ _, by first | exact Kd.R_nil _ _ _ _ _ | exact Kd.N_nil _ _ _ _ _ | exact Kd.V_nil _ _ _ _ _ | exact Kd.Q_nil _ _ _ _ _ | exact Kd.S_nil _ _ _ _ _, by repeat (first | (with_reducible first | exact HB.out | apply below_alloc | apply pw_below_drewN | apply below_drew1 | refine below_set ?_ (IsS42.ge HI266.out) | refine below_set ?_ GE265.out | refine below_set ?_ GE281.out) | exact HB.out)⟩
mutual
def spec_All.l0 : Nat → List (S25) → List (S25) → Int → Int → Option ((List (S25)))
  | 0, _, _, _, _ => none
  | k + 1, x3, x9, x10, x11 => if x11 < x10 then (if 0 ≤ x11 then (if x11 < (x9.length : Int) then ((spec_All.f k ((rd_T25 x9 x11).f0) ((rd_T25 x9 x11).f1) ((rd_T25 x9 x11).f2) ((rd_T25 x9 x11).f3) ((rd_T25 x9 x11).f4)).bind fun t290 => (if x3.length + t290.length < 1954687338268 then (spec_All.l0 k (x3 ++ t290) x9 x10 (wrap64 (x11 + 1))) else (none))) else (none)) else (none)) else (some x3)
def spec_All.f : Nat → Int → Int → Int → List (S61) → List (S25) → Option ((List (S25)))
  | 0, _, _, _, _, _ => none
  | k + 1, a0_0, a0_1, a0_2, l0_3, l0_4 => spec_All.l0 k (([(⟨a0_0, a0_1, a0_2, l0_3, l0_4⟩ : S25)] : List (S25))) l0_4 (l0_4.length : Int) 0
end
set_option maxHeartbeats 8000000 in
set_option maxRecDepth 100000 in
theorem spec_All.calls (k : Nat) : ∀ (a0_0 : Int) (a0_1 : Int) (a0_2 : Int) (P0_3_ : Nat → Prop) (A0_3 : Option Addr) (c0_3 : Nat) (l0_3 : List (S61)) (P0_4_ : Nat → Prop) (A0_4 : Option Addr) (c0_4 : Nat) (l0_4 : List (S25)) (r : List (S25)) (w : World) (hs0_3 : Kd.V k61 61 w w.heap.size (fun k_ => P0_3_ k_) (.slice A0_3 l0_3.length c0_3) l0_3) (hs0_4 : Kd.V k25 25 w w.heap.size (fun k_ => P0_4_ k_) (.slice A0_4 l0_4.length c0_4) l0_4) (h : spec_All.f k a0_0 a0_1 a0_2 l0_3 l0_4 = some r),
    Calls Try.prog 10 #[.agg #[.int .i64 a0_0, .int .i64 a0_1, .int .i64 a0_2, .slice A0_3 l0_3.length c0_3, .slice A0_4 l0_4.length c0_4]] w fun e w' => ∃ v0_ : Value, e = .returned (v0_) ∧ Kd.N k25 25 w' w.heap.size (fun k_ => ((P0_3_ k_ ∨ P0_4_ k_) ∨ w.heap.size ≤ k_)) v0_ r ∧ Below w.heap.size w w' := by
  induction k using Nat.strongRecOn with
  | _ k ih =>
  intro a0_0 a0_1 a0_2 P0_3_ A0_3 c0_3 l0_3 P0_4_ A0_4 c0_4 l0_4 r w hs0_3 hs0_4 h
  cases k with
  | zero => exact absurd h (by simp [spec_All.f])
  | succ k =>
  simp only [spec_All.f] at h
  have hu25 := Try.underlying25
  have HO0_3 := Aside0.mk (show Kd.V k61 61 w w.heap.size (fun k_ => ((P0_3_ k_ ∨ P0_4_ k_) ∨ w.heap.size ≤ k_)) (.slice A0_3 l0_3.length c0_3) l0_3 from Kd.V_mono hs0_3 (fun k_ hk => .inl (.inl hk)))
  have HO0_4 := Aside0.mk (show Kd.V k25 25 w w.heap.size (fun k_ => ((P0_3_ k_ ∨ P0_4_ k_) ∨ w.heap.size ≤ k_)) (.slice A0_4 l0_4.length c0_4) l0_4 from Kd.V_mono hs0_4 (fun k_ hk => .inl (.inr hk)))
  have HB := Aside0.mk (Below.refl w.heap.size w)
  have H : (spec_All.l0 k (([(⟨a0_0, a0_1, a0_2, l0_3, l0_4⟩ : S25)] : List (S25))) l0_4 (l0_4.length : Int) 0) = some r := h
  clear h
  obtain ⟨y285, hy285⟩ : ∃ y_ : List (S25), y_ = (([(⟨a0_0, a0_1, a0_2, l0_3, l0_4⟩ : S25)] : List (S25))) := ⟨_, rfl⟩
  replace H : (spec_All.l0 k y285 l0_4 (l0_4.length : Int) 0) = some r := by first | (rw [hy285]; with_reducible exact H) | (have H2_ := (Option.bind_some _ _).symm.trans H; rw [hy285]; with_reducible exact H2_) | (have H2_ := (Option.bind_some _ _).symm.trans H; with_reducible exact H2_) | with_reducible exact H | (rw [hy285]; exact H) | exact H
  have Ny285 := Aside0.mk hy285
  clear hy285
  have H' := Aside0.mk H
  clear H
  go_enter Try.func10, Try.ntmps10
  go_wp2_with (first | ((with_reducible refine gate_dst (N := 1) rfl ?_); refine box_event ?hg (N := 1) ?hd (cs := #[.int .i64 a0_0, .int .i64 a0_1, .int .i64 a0_2, .slice A0_3 l0_3.length c0_3, .slice A0_4 l0_4.length c0_4]) (t := 25) ?hr ?_; (case hd => rfl); (case hg => rfl); (case hr => first | (go_simp; done) | (go_simp; rfl)); intro gb284 hg w2 hbox hb; have n0_ := Aside0.mk (Kd.V_below (Kd.V_elderB (by (with_reducible repeat (first | apply Kd.V_alloc | apply Kd.V_drewN | apply Kd.V_drew)); exact HO0_3.out) gb284 (Nat.le_of_eq hg.symm)) hb); have n1_ := Aside0.mk (Kd.V_below (Kd.V_elderB (by (with_reducible repeat (first | apply Kd.V_alloc | apply Kd.V_drewN | apply Kd.V_drew)); exact HO0_4.out) gb284 (Nat.le_of_eq hg.symm)) hb); have n2_ := Aside0.mk (below_step (by repeat (first | (with_reducible first | exact HB.out | apply below_alloc | apply pw_below_drewN | apply below_drew1) | exact HB.out)) hb); have n3_ := Aside0.mk (hbox); have n4_ := Aside0.mk ((by rw [hg]; exact (below_size (by repeat (first | (with_reducible first | exact HB.out | apply below_alloc | apply pw_below_drewN | apply below_drew1) | exact HB.out))) : w.heap.size ≤ gb284)); have n5_ := Aside0.mk ((by rw [hg]; exact (below_size (by repeat (first | (with_reducible first | exact HB.out | apply below_alloc | apply pw_below_drewN | apply below_drew1) | exact HB.out))) : w.heap.size ≤ gb284)); clear HO0_3; clear HO0_4; clear HB; have HO0_3 := n0_; have HO0_4 := n1_; have HB := n2_; have BK284 := n3_; have GW284 := n4_; have GE284 := n5_; clear n0_ n1_ n2_ n3_ n4_ n5_; clear hb hbox hg; have hcz3_0 : w2.cell? ⟨gb284, 0, none⟩ = some (.int .i64 a0_0) := (blk_cell BK284.out 0).trans rfl; have hcz3_1 : w2.cell? ⟨gb284, 1, none⟩ = some (.int .i64 a0_1) := (blk_cell BK284.out 1).trans rfl; have hcz3_2 : w2.cell? ⟨gb284, 2, none⟩ = some (.int .i64 a0_2) := (blk_cell BK284.out 2).trans rfl; have hcz3_3 : w2.cell? ⟨gb284, 3, none⟩ = some (.slice A0_3 l0_3.length c0_3) := (blk_cell BK284.out 3).trans rfl; have hcz3_4 : w2.cell? ⟨gb284, 4, none⟩ = some (.slice A0_4 l0_4.length c0_4) := (blk_cell BK284.out 4).trans rfl; have hfz3_0 := blk_frozen BK284.out 0; have hfz3_1 := blk_frozen BK284.out 1; have hfz3_2 := blk_frozen BK284.out 2; have hfz3_3 := blk_frozen BK284.out 3; have hfz3_4 := blk_frozen BK284.out 4) | ((with_reducible refine gate_dst (N := 7) rfl ?_); refine Kd.N_lit k25 _ 25 ?hg (N' := 7) ?hd (xs := ([(⟨a0_0, a0_1, a0_2, l0_3, l0_4⟩ : S25)] : List (S25))) (inner := [.int .i64 a0_0, .int .i64 a0_1, .int .i64 a0_2, .slice A0_3 l0_3.length c0_3, .slice A0_4 l0_4.length c0_4]) (ok := (fun k_ => ((P0_3_ k_ ∨ P0_4_ k_) ∨ w.heap.size ≤ k_) ∧ k_ ≠ gb284)) (okp := (fun k_ => ((P0_3_ k_ ∨ P0_4_ k_) ∨ w.heap.size ≤ k_) ∧ k_ ≠ gb284)) ?hr ?hp (fun _ hk => hk) ((show ∀ k_, w2.heap.size ≤ k_ → (fun k_ => ((P0_3_ k_ ∨ P0_4_ k_) ∨ w.heap.size ≤ k_) ∧ k_ ≠ gb284) k_ from fun k_ hk => ⟨(.inr (Nat.le_trans (below_size (by repeat (first | (with_reducible first | exact HB.out | apply below_alloc | apply pw_below_drewN | apply below_drew1 | refine below_set ?_ GE284.out) | exact HB.out))) hk)), Kd.freshB (g := gb284) (o := .cells #[.int .i64 a0_0, .int .i64 a0_1, .int .i64 a0_2, .slice A0_3 l0_3.length c0_3, .slice A0_4 l0_4.length c0_4] 25 (0, 0)) (by (with_reducible repeat (first | refine blk_drewN ?_ _ | refine blk_drew ?_ | refine blk_alloc ?_ _)); exact BK284.out) k_ hk⟩) _ (Nat.le_refl _)) (Below.refl _ _) (Nat.le_refl _) (by simp) ?_; (case hd => rfl); (case hg => rfl); (case hr => first | (go_simp; done) | (go_simp; rfl)); (case hp => exact (Reps.c5 (show Kd.FK k25 _ _ (⟨a0_0, a0_1, a0_2, l0_3, l0_4⟩ : S25) [.int .i64 a0_0, .int .i64 a0_1, .int .i64 a0_2, .slice A0_3 l0_3.length c0_3, .slice A0_4 l0_4.length c0_4] from (k25_mkF _ _ (⟨a0_0, a0_1, a0_2, l0_3, l0_4⟩ : S25) (Kd.V_reads' (Kd.V_mono (ok' := (fun k_ => ((P0_3_ k_ ∨ P0_4_ k_) ∨ w.heap.size ≤ k_) ∧ k_ ≠ gb284)) (HO0_3.out) (fun k_ hk => ⟨hk.1, hk.2⟩))).2.1 (Kd.V_F (Kd.V_mono (ok' := (fun k_ => ((P0_3_ k_ ∨ P0_4_ k_) ∨ w.heap.size ≤ k_) ∧ k_ ≠ gb284)) (HO0_3.out) (fun k_ hk => ⟨hk.1, hk.2⟩))) (Kd.V_reads' (Kd.V_mono (ok' := (fun k_ => ((P0_3_ k_ ∨ P0_4_ k_) ∨ w.heap.size ≤ k_) ∧ k_ ≠ gb284)) (HO0_4.out) (fun k_ hk => ⟨hk.1, hk.2⟩))).2.1 (Kd.V_F (Kd.V_mono (ok' := (fun k_ => ((P0_3_ k_ ∨ P0_4_ k_) ∨ w.heap.size ≤ k_) ∧ k_ ≠ gb284)) (HO0_4.out) (fun k_ hk => ⟨hk.1, hk.2⟩))))) (Reps.none _ _))); intro v286 w4 ho5 hb hg_ hnew_; clear hg_ hnew_; (first | rw [← Ny285.out] at ho5 | (simp only [Int.reduceToNat] at ho5; rw [← Ny285.out] at ho5)); have n0_ := Aside0.mk (Kd.V_elder' (by (with_reducible repeat (first | apply Kd.V_alloc | apply Kd.V_drewN | apply Kd.V_drew)); exact HO0_3.out) (Kd.N_base ho5) hb); have n1_ := Aside0.mk (Kd.V_elder' (by (with_reducible repeat (first | apply Kd.V_alloc | apply Kd.V_drewN | apply Kd.V_drew)); exact HO0_4.out) (Kd.N_base ho5) hb); have n2_ := Aside0.mk (Kd.N_lower ho5 (below_size (by repeat (first | (with_reducible first | exact HB.out | apply below_alloc | apply pw_below_drewN | apply below_drew1 | refine below_set ?_ GE284.out) | exact HB.out)))); have n3_ := Aside0.mk (blk_below (g := gb284) (o := .cells #[.int .i64 a0_0, .int .i64 a0_1, .int .i64 a0_2, .slice A0_3 l0_3.length c0_3, .slice A0_4 l0_4.length c0_4] 25 (0, 0)) (by (with_reducible repeat (first | refine blk_drewN ?_ _ | refine blk_drew ?_ | refine blk_alloc ?_ _)); exact BK284.out) hb); have n4_ := Aside0.mk (below_step (by repeat (first | (with_reducible first | exact HB.out | apply below_alloc | apply pw_below_drewN | apply below_drew1 | refine below_set ?_ GE284.out) | exact HB.out)) hb); clear HO0_3; clear HO0_4; clear BK284; clear HB; have HO0_3 := n0_; have HO0_4 := n1_; have HO287 := n2_; have BK284 := n3_; have HB := n4_; clear n0_ n1_ n2_ n3_ n4_; clear hb ho5; have hcz6_0 : w4.cell? ⟨gb284, 0, none⟩ = some (.int .i64 a0_0) := (blk_cell BK284.out 0).trans rfl; have hcz6_1 : w4.cell? ⟨gb284, 1, none⟩ = some (.int .i64 a0_1) := (blk_cell BK284.out 1).trans rfl; have hcz6_2 : w4.cell? ⟨gb284, 2, none⟩ = some (.int .i64 a0_2) := (blk_cell BK284.out 2).trans rfl; have hcz6_3 : w4.cell? ⟨gb284, 3, none⟩ = some (.slice A0_3 l0_3.length c0_3) := (blk_cell BK284.out 3).trans rfl; have hcz6_4 : w4.cell? ⟨gb284, 4, none⟩ = some (.slice A0_4 l0_4.length c0_4) := (blk_cell BK284.out 4).trans rfl; have hfz6_0 := blk_frozen BK284.out 0; have hfz6_1 := blk_frozen BK284.out 1; have hfz6_2 := blk_frozen BK284.out 2; have hfz6_3 := blk_frozen BK284.out 3; have hfz6_4 := blk_frozen BK284.out 4))
  try simp only [Act.put, List.setIfInBounds_toArray, List.set_cons_succ, List.set_cons_zero]
  go_loopg [3, 11] k (fun kq v3 v11 w' => ∃ (x3_1 : List (S25)) (x11_1 : Int), v11 = .int .i64 x11_1 ∧ Aside0 (spec_All.l0 kq x3_1 l0_4 (l0_4.length : Int) x11_1 = some r) ∧ Aside0 (kq ≤ k) ∧ Aside0 (Kd.N k25 25 w' w.heap.size (fun k_ => ((P0_3_ k_ ∨ P0_4_ k_) ∨ w.heap.size ≤ k_) ∧ k_ ≠ gb284) v3 x3_1) ∧ Aside0 (Kd.V k25 25 w' w.heap.size (fun k_ => ((P0_3_ k_ ∨ P0_4_ k_) ∨ w.heap.size ≤ k_) ∧ some k_ ≠ (v3 : Value).ownBlock ∧ k_ ≠ gb284) (.slice A0_4 l0_4.length c0_4) l0_4) ∧ Aside0 (Kd.V k61 61 w' w.heap.size (fun k_ => ((P0_3_ k_ ∨ P0_4_ k_) ∨ w.heap.size ≤ k_) ∧ some k_ ≠ (v3 : Value).ownBlock ∧ k_ ≠ gb284) (.slice A0_3 l0_3.length c0_3) l0_3) ∧ Aside0 (Kd.V k25 25 w' w.heap.size (fun k_ => ((P0_3_ k_ ∨ P0_4_ k_) ∨ w.heap.size ≤ k_) ∧ some k_ ≠ (v3 : Value).ownBlock ∧ k_ ≠ gb284) (.slice A0_4 l0_4.length c0_4) l0_4) ∧ Aside0 (w'.heap[gb284]? = some (.cells #[.int .i64 a0_0, .int .i64 a0_1, .int .i64 a0_2, (.slice A0_3 l0_3.length c0_3), (.slice A0_4 l0_4.length c0_4)] 25 (0, 0))) ∧ Aside0 (Below w.heap.size w w'))
  case atStart => exact ⟨(y285), (0), (by first | rfl | (simp; done) | (simp [*]; done)), H', ⟨Nat.le_refl _⟩, ⟨by (with_reducible repeat (first | apply Kd.N_alloc | apply Kd.N_drewN | apply Kd.N_drew)); exact HO287.out⟩, ⟨by (with_reducible repeat (first | apply Kd.V_alloc | apply Kd.V_drewN | apply Kd.V_drew)); exact Kd.V_mono HO0_4.out (fun _ hk => ⟨hk.1.1, ⟨hk.2, hk.1.2⟩⟩)⟩, ⟨by (with_reducible repeat (first | apply Kd.V_alloc | apply Kd.V_drewN | apply Kd.V_drew)); exact Kd.V_mono HO0_3.out (fun _ hk => ⟨hk.1.1, ⟨hk.2, hk.1.2⟩⟩)⟩, ⟨by (with_reducible repeat (first | apply Kd.V_alloc | apply Kd.V_drewN | apply Kd.V_drew)); exact Kd.V_mono HO0_4.out (fun _ hk => ⟨hk.1.1, ⟨hk.2, hk.1.2⟩⟩)⟩, ⟨by (with_reducible repeat (first | refine blk_drewN ?_ _ | refine blk_drew ?_ | refine blk_alloc ?_ _)); exact BK284.out⟩, ⟨by repeat (first | (with_reducible first | exact HB.out | apply below_alloc | apply pw_below_drewN | apply below_drew1 | refine below_set ?_ GE284.out) | exact HB.out)⟩⟩
  case round =>
    clear H'
    try clear c1
    try clear p2
    try clear c5
    try clear hcz3_0
    try clear hcz3_1
    try clear hcz3_2
    try clear hcz3_3
    try clear hcz3_4
    try clear hcz6_0
    try clear hcz6_1
    try clear hcz6_2
    try clear hcz6_3
    try clear hcz6_4
    try clear hfz3_0
    try clear hfz3_1
    try clear hfz3_2
    try clear hfz3_3
    try clear hfz3_4
    try clear hfz6_0
    try clear hfz6_1
    try clear hfz6_2
    try clear hfz6_3
    try clear hfz6_4
    obtain ⟨x3_1, x11_1, rfl, HA, HK1, HO_3, HO_9, HO_285003, HO_285004, BK284, HB⟩ := hrel
    cases gk with
    | zero => exact absurd HA.out (by simp [spec_All.l0])
    | succ k1 =>
      have H := HA.out
      clear HA
      simp only [spec_All.l0] at H
      by_cases c7 : x11_1 < (l0_4.length : Int)
      · rw [if_pos c7] at H
        have c7b0 : decide (x11_1 < (l0_4.length : Int)) = true := decide_eq_true c7
        clear c7
        by_cases c8 : 0 ≤ x11_1
        · rw [if_pos c8] at H
          have c8b0 : decide (0 ≤ x11_1) = true := decide_eq_true c8
          clear c8
          by_cases c9 : x11_1 < (l0_4.length : Int)
          · rw [if_pos c9] at H
            have c9b0 : decide (x11_1 < (l0_4.length : Int)) = true := decide_eq_true c9
            clear c9
            replace H := Option.bind_eq_some_iff.mp H
            obtain ⟨t290, A100, H⟩ := H
            replace H : (if x3_1.length + t290.length < 1954687338268 then (spec_All.l0 k1 (x3_1 ++ t290) l0_4 (l0_4.length : Int) (wrap64 (x11_1 + 1))) else (none)) = some r := H
            have A10 := Aside0.mk A100
            clear A100
            by_cases c11 : x3_1.length + t290.length < 1954687338268
            · rw [if_pos c11] at H
              have LMc11 := Aside0.mk c11
              clear c11
              obtain ⟨y293, hy293⟩ : ∃ y_ : List (S25), y_ = (x3_1 ++ t290) := ⟨_, rfl⟩
              replace H : (spec_All.l0 k1 y293 l0_4 (l0_4.length : Int) (wrap64 (x11_1 + 1))) = some r := by first | (rw [hy293]; with_reducible exact H) | (have H2_ := (Option.bind_some _ _).symm.trans H; rw [hy293]; with_reducible exact H2_) | (have H2_ := (Option.bind_some _ _).symm.trans H; with_reducible exact H2_) | with_reducible exact H | (rw [hy293]; exact H) | exact H
              have Ny293 := Aside0.mk hy293
              clear hy293
              have H' := Aside0.mk H
              clear H
              have p288 : 0 ≤ (x11_1 : Int) := of_decide_eq_true (by first | (with_reducible assumption) | assumption)
              have q288 : x11_1 < (l0_4.length : Int) := of_decide_eq_true (by first | (with_reducible assumption) | assumption)
              obtain ⟨ad288, A288_3, c288_3, A288_4, c288_4, e288, hx288_0, hx288_1, hx288_2, hx288_3, hx288_4, hl288_3, hi288_3, hl288_4, hi288_4⟩ := at_T25 (Kd.V_reads' HO_9.out).2.2 x11_1 p288 q288
              cases e288
              obtain ⟨ce288, hce288, hMe288, hcc288⟩ := Kd.V_get HO_9.out z25 x11_1 p288 (by first | exact q288 | exact of_decide_eq_true (by first | (with_reducible assumption) | assumption) | (have e_ := (Kd.V_reads' HO_9.out).1; omega))
              obtain ⟨ua288_3, uc288_3, ua288_4, uc288_4, rfl, ul288_3, ge288_3, ul288_4, ge288_4⟩ := k25_openF hMe288
              have hv288_3 := hcc288 3 _ rfl
              rw [add_field _ _ 3 (by omega)] at hv288_3
              replace hv288_3 := Option.some.inj (hv288_3.symm.trans hx288_3)
              injection hv288_3 with hva_ hvn_ hvc_
              rw [hva_] at ge288_3
              rw [hvc_] at ul288_3
              have HL288_3 := Aside0.mk (show Kd.V k61 61 _ w.heap.size _ _ ((rd_T25 l0_4 x11_1).f3) from Kd.V_mk ul288_3 ge288_3)
              clear hva_ hvn_ hvc_ ge288_3 ul288_3
              have hv288_4 := hcc288 4 _ rfl
              rw [add_field _ _ 4 (by omega)] at hv288_4
              replace hv288_4 := Option.some.inj (hv288_4.symm.trans hx288_4)
              injection hv288_4 with hva_ hvn_ hvc_
              rw [hva_] at ge288_4
              rw [hvc_] at ul288_4
              have HL288_4 := Aside0.mk (show Kd.V k25 25 _ w.heap.size _ _ ((rd_T25 l0_4 x11_1).f4) from Kd.V_mk ul288_4 ge288_4)
              clear hva_ hvn_ hvc_ ge288_4 ul288_4
              clear hcc288 hce288
              have HR288_3 := Aside0.mk hi288_3
              have HC288_3 := Aside0.mk hl288_3
              clear hi288_3 hl288_3
              have HR288_4 := Aside0.mk hi288_4
              have HC288_4 := Aside0.mk hl288_4
              clear hi288_4 hl288_4
              replace p288 := eq_true p288
              replace q288 := eq_true q288
              go_wp2_with (first | ((with_reducible refine gate_dst (N := 5) rfl ?_); refine box_event ?hg (N := 5) ?hd (cs := #[.int .i64 0, .int .i64 0, .int .i64 0, .slice none 0 0, .slice none 0 0]) (t := 25) ?hr ?_; (case hd => rfl); (case hg => rfl); (case hr => first | (go_simp; done) | (go_simp; rfl)); intro gb289 hg w12 hbox hb; have n0_ := Aside0.mk (Kd.N_below (Kd.N_elderB (by (with_reducible repeat (first | apply Kd.N_alloc | apply Kd.N_drewN | apply Kd.N_drew)); exact HO_3.out) gb289 (Nat.le_of_eq hg.symm)) hb); have n1_ := Aside0.mk (Kd.V_below (Kd.V_elderB (by (with_reducible repeat (first | apply Kd.V_alloc | apply Kd.V_drewN | apply Kd.V_drew)); exact HO_9.out) gb289 (Nat.le_of_eq hg.symm)) hb); have n2_ := Aside0.mk (Kd.V_below (Kd.V_elderB (by (with_reducible repeat (first | apply Kd.V_alloc | apply Kd.V_drewN | apply Kd.V_drew)); exact HO_285003.out) gb289 (Nat.le_of_eq hg.symm)) hb); have n3_ := Aside0.mk (Kd.V_below (Kd.V_elderB (by (with_reducible repeat (first | apply Kd.V_alloc | apply Kd.V_drewN | apply Kd.V_drew)); exact HO_285004.out) gb289 (Nat.le_of_eq hg.symm)) hb); have n4_ := Aside0.mk (Kd.V_below (Kd.V_elderB (by (with_reducible repeat (first | apply Kd.V_alloc | apply Kd.V_drewN | apply Kd.V_drew)); exact HL288_3.out) gb289 (Nat.le_of_eq hg.symm)) hb); have n5_ := Aside0.mk (Kd.V_below (Kd.V_elderB (by (with_reducible repeat (first | apply Kd.V_alloc | apply Kd.V_drewN | apply Kd.V_drew)); exact HL288_4.out) gb289 (Nat.le_of_eq hg.symm)) hb); have n6_ := Aside0.mk (blk_below (g := gb284) (o := .cells #[.int .i64 a0_0, .int .i64 a0_1, .int .i64 a0_2, .slice A0_3 l0_3.length c0_3, .slice (some ad288) l0_4.length c0_4] 25 (0, 0)) (by (with_reducible repeat (first | refine blk_drewN ?_ _ | refine blk_drew ?_ | refine blk_alloc ?_ _)); exact BK284.out) hb); (try have n7_ := Aside0.mk (Kd.C_below (by repeat (first | (with_reducible exact HR288_3.out) | (with_reducible refine Kd.C_alloc ?_ _) | (with_reducible refine Kd.C_drewN ?_ _) | (with_reducible refine Kd.C_drew ?_) | exact HR288_3.out)) hb)); (try have n8_ := Aside0.mk (Kd.C_below (by repeat (first | (with_reducible exact HR288_4.out) | (with_reducible refine Kd.C_alloc ?_ _) | (with_reducible refine Kd.C_drewN ?_ _) | (with_reducible refine Kd.C_drew ?_) | exact HR288_4.out)) hb)); have n9_ := Aside0.mk (below_step (by repeat (first | (with_reducible first | exact HB.out | apply below_alloc | apply pw_below_drewN | apply below_drew1 | refine below_set ?_ GE284.out) | exact HB.out)) hb); have n10_ := Aside0.mk (hbox); have n11_ := Aside0.mk ((by rw [hg]; exact (below_size (by repeat (first | (with_reducible first | exact HB.out | apply below_alloc | apply pw_below_drewN | apply below_drew1 | refine below_set ?_ GE284.out) | exact HB.out))) : w.heap.size ≤ gb289)); have n12_ := Aside0.mk ((by rw [hg]; exact (below_size (by repeat (first | (with_reducible first | exact HB.out | apply below_alloc | apply pw_below_drewN | apply below_drew1 | refine below_set ?_ GE284.out) | exact HB.out))) : w.heap.size ≤ gb289)); have n13_ := Aside0.mk ((by rw [hg]; exact Nat.ne_of_lt (blk_lt (g := gb284) (o := .cells #[.int .i64 a0_0, .int .i64 a0_1, .int .i64 a0_2, .slice A0_3 l0_3.length c0_3, .slice (some ad288) l0_4.length c0_4] 25 (0, 0)) (by (with_reducible repeat (first | refine blk_drewN ?_ _ | refine blk_drew ?_ | refine blk_alloc ?_ _)); exact BK284.out)) : gb284 ≠ gb289)); have n14_ := Aside0.mk ((by rw [hg]; exact Nat.ne_of_gt (blk_lt (g := gb284) (o := .cells #[.int .i64 a0_0, .int .i64 a0_1, .int .i64 a0_2, .slice A0_3 l0_3.length c0_3, .slice (some ad288) l0_4.length c0_4] 25 (0, 0)) (by (with_reducible repeat (first | refine blk_drewN ?_ _ | refine blk_drew ?_ | refine blk_alloc ?_ _)); exact BK284.out)) : gb289 ≠ gb284)); clear HO_3; clear HO_9; clear HO_285003; clear HO_285004; clear HL288_3; clear HL288_4; clear BK284; clear HR288_3; clear HR288_4; clear HB; have HO_3 := n0_; have HO_9 := n1_; have HO_285003 := n2_; have HO_285004 := n3_; have HL288_3 := n4_; have HL288_4 := n5_; have BK284 := n6_; (try have HR288_3 := n7_); (try have HR288_4 := n8_); have HB := n9_; have BK289 := n10_; have GW289 := n11_; have GE289 := n12_; have NB284_289 := n13_; have NB289_284 := n14_; clear n0_ n1_ n2_ n3_ n4_ n5_ n6_ n9_ n10_ n11_ n12_ n13_ n14_; (try clear n7_); (try clear n8_); clear hb hbox hg; have hnb13 := NB289_284.out; have hnc13 := NB284_289.out; have hcz14_0 : w12.cell? ⟨gb289, 0, none⟩ = some (.int .i64 0) := (blk_cell BK289.out 0).trans rfl; have hcz14_1 : w12.cell? ⟨gb289, 1, none⟩ = some (.int .i64 0) := (blk_cell BK289.out 1).trans rfl; have hcz14_2 : w12.cell? ⟨gb289, 2, none⟩ = some (.int .i64 0) := (blk_cell BK289.out 2).trans rfl; have hcz14_3 : w12.cell? ⟨gb289, 3, none⟩ = some (.slice none 0 0) := (blk_cell BK289.out 3).trans rfl; have hcz14_4 : w12.cell? ⟨gb289, 4, none⟩ = some (.slice none 0 0) := (blk_cell BK289.out 4).trans rfl; have hfz14_0 := blk_frozen BK289.out 0; have hfz14_1 := blk_frozen BK289.out 1; have hfz14_2 := blk_frozen BK289.out 2; have hfz14_3 := blk_frozen BK289.out 3; have hfz14_4 := blk_frozen BK289.out 4) | ((with_reducible refine gate_store (t := 25) (p := 5) rfl ?_); refine store_event (t := 25) (p := 5) (v := ?vo_w15) (w1 := (((((w12.setCell ⟨gb289, 0, none⟩ (.int .i64 ((rd_T25 l0_4 x11_1).f0))).setCell ⟨gb289, 1, none⟩ (.int .i64 ((rd_T25 l0_4 x11_1).f1))).setCell ⟨gb289, 2, none⟩ (.int .i64 ((rd_T25 l0_4 x11_1).f2))).setCell ⟨gb289, 3, none⟩ (.slice A288_3 ((rd_T25 l0_4 x11_1).f3).length c288_3)).setCell ⟨gb289, 4, none⟩ (.slice A288_4 ((rd_T25 l0_4 x11_1).f4).length c288_4))) ?hg ?ho ?hn ?hr ?_; (case ho => rfl); (case hg => rfl); (case hn => rfl); (case hr => first | (go_simp; done) | (go_simp; rfl)); intro w15 hw; have n0_ : Aside0 (Kd.N k25 25 w15 w.heap.size (fun k_ => ((P0_3_ k_ ∨ P0_4_ k_) ∨ w.heap.size ≤ k_) ∧ k_ ≠ gb284 ∧ k_ ≠ gb289) u3 x3_1) := ⟨(by rw [hw]; exact (by (with_reducible repeat (first | apply Kd.N_alloc | apply Kd.N_drewN | apply Kd.N_drew)); exact Kd.N_mono (Kd.N_far (p := ⟨gb289, 4, none⟩) (Kd.N_far (p := ⟨gb289, 3, none⟩) (Kd.N_far (p := ⟨gb289, 2, none⟩) (Kd.N_far (p := ⟨gb289, 1, none⟩) (Kd.N_far (p := ⟨gb289, 0, none⟩) (Kd.N_mono HO_3.out (fun k_ hk => (⟨hk, hk.2⟩ : _ ∧ k_ ≠ gb289))) (fun _ hk => hk.2) (.int .i64 ((rd_T25 l0_4 x11_1).f0))) (fun _ hk => hk.2) (.int .i64 ((rd_T25 l0_4 x11_1).f1))) (fun _ hk => hk.2) (.int .i64 ((rd_T25 l0_4 x11_1).f2))) (fun _ hk => hk.2) (.slice A288_3 ((rd_T25 l0_4 x11_1).f3).length c288_3)) (fun _ hk => hk.2) (.slice A288_4 ((rd_T25 l0_4 x11_1).f4).length c288_4)) (fun _ hk => ⟨hk.1.1.1, ⟨hk.1.1.2, hk.1.2⟩⟩)))⟩; have n1_ : Aside0 (Kd.V k25 25 w15 w.heap.size (fun k_ => ((P0_3_ k_ ∨ P0_4_ k_) ∨ w.heap.size ≤ k_) ∧ some k_ ≠ (u3 : Value).ownBlock ∧ k_ ≠ gb284 ∧ k_ ≠ gb289) (.slice (some ad288) l0_4.length c0_4) l0_4) := ⟨(by rw [hw]; exact (by (with_reducible repeat (first | apply Kd.V_alloc | apply Kd.V_drewN | apply Kd.V_drew)); exact Kd.V_mono (Kd.V_far (p := ⟨gb289, 4, none⟩) (Kd.V_far (p := ⟨gb289, 3, none⟩) (Kd.V_far (p := ⟨gb289, 2, none⟩) (Kd.V_far (p := ⟨gb289, 1, none⟩) (Kd.V_far (p := ⟨gb289, 0, none⟩) (Kd.V_mono HO_9.out (fun k_ hk => (⟨hk, hk.2⟩ : _ ∧ k_ ≠ gb289))) (fun _ hk => hk.2) (.int .i64 ((rd_T25 l0_4 x11_1).f0))) (fun _ hk => hk.2) (.int .i64 ((rd_T25 l0_4 x11_1).f1))) (fun _ hk => hk.2) (.int .i64 ((rd_T25 l0_4 x11_1).f2))) (fun _ hk => hk.2) (.slice A288_3 ((rd_T25 l0_4 x11_1).f3).length c288_3)) (fun _ hk => hk.2) (.slice A288_4 ((rd_T25 l0_4 x11_1).f4).length c288_4)) (fun _ hk => ⟨hk.1.1.1, ⟨hk.1.1.2.1, ⟨hk.1.1.2.2, hk.1.2⟩⟩⟩)))⟩; have n2_ : Aside0 (Kd.V k61 61 w15 w.heap.size (fun k_ => ((P0_3_ k_ ∨ P0_4_ k_) ∨ w.heap.size ≤ k_) ∧ some k_ ≠ (u3 : Value).ownBlock ∧ k_ ≠ gb284 ∧ k_ ≠ gb289) (.slice A0_3 l0_3.length c0_3) l0_3) := ⟨(by rw [hw]; exact (by (with_reducible repeat (first | apply Kd.V_alloc | apply Kd.V_drewN | apply Kd.V_drew)); exact Kd.V_mono (Kd.V_far (p := ⟨gb289, 4, none⟩) (Kd.V_far (p := ⟨gb289, 3, none⟩) (Kd.V_far (p := ⟨gb289, 2, none⟩) (Kd.V_far (p := ⟨gb289, 1, none⟩) (Kd.V_far (p := ⟨gb289, 0, none⟩) (Kd.V_mono HO_285003.out (fun k_ hk => (⟨hk, hk.2⟩ : _ ∧ k_ ≠ gb289))) (fun _ hk => hk.2) (.int .i64 ((rd_T25 l0_4 x11_1).f0))) (fun _ hk => hk.2) (.int .i64 ((rd_T25 l0_4 x11_1).f1))) (fun _ hk => hk.2) (.int .i64 ((rd_T25 l0_4 x11_1).f2))) (fun _ hk => hk.2) (.slice A288_3 ((rd_T25 l0_4 x11_1).f3).length c288_3)) (fun _ hk => hk.2) (.slice A288_4 ((rd_T25 l0_4 x11_1).f4).length c288_4)) (fun _ hk => ⟨hk.1.1.1, ⟨hk.1.1.2.1, ⟨hk.1.1.2.2, hk.1.2⟩⟩⟩)))⟩; have n3_ : Aside0 (Kd.V k25 25 w15 w.heap.size (fun k_ => ((P0_3_ k_ ∨ P0_4_ k_) ∨ w.heap.size ≤ k_) ∧ some k_ ≠ (u3 : Value).ownBlock ∧ k_ ≠ gb284 ∧ k_ ≠ gb289) (.slice (some ad288) l0_4.length c0_4) l0_4) := ⟨(by rw [hw]; exact (by (with_reducible repeat (first | apply Kd.V_alloc | apply Kd.V_drewN | apply Kd.V_drew)); exact Kd.V_mono (Kd.V_far (p := ⟨gb289, 4, none⟩) (Kd.V_far (p := ⟨gb289, 3, none⟩) (Kd.V_far (p := ⟨gb289, 2, none⟩) (Kd.V_far (p := ⟨gb289, 1, none⟩) (Kd.V_far (p := ⟨gb289, 0, none⟩) (Kd.V_mono HO_285004.out (fun k_ hk => (⟨hk, hk.2⟩ : _ ∧ k_ ≠ gb289))) (fun _ hk => hk.2) (.int .i64 ((rd_T25 l0_4 x11_1).f0))) (fun _ hk => hk.2) (.int .i64 ((rd_T25 l0_4 x11_1).f1))) (fun _ hk => hk.2) (.int .i64 ((rd_T25 l0_4 x11_1).f2))) (fun _ hk => hk.2) (.slice A288_3 ((rd_T25 l0_4 x11_1).f3).length c288_3)) (fun _ hk => hk.2) (.slice A288_4 ((rd_T25 l0_4 x11_1).f4).length c288_4)) (fun _ hk => ⟨hk.1.1.1, ⟨hk.1.1.2.1, ⟨hk.1.1.2.2, hk.1.2⟩⟩⟩)))⟩; have n4_ : Aside0 (Kd.V k61 61 w15 w.heap.size (fun k_ => ((P0_3_ k_ ∨ P0_4_ k_) ∨ w.heap.size ≤ k_) ∧ some k_ ≠ (u3 : Value).ownBlock ∧ k_ ≠ gb284 ∧ k_ ≠ gb289) (.slice A288_3 ((rd_T25 l0_4 x11_1).f3).length c288_3) ((rd_T25 l0_4 x11_1).f3)) := ⟨(by rw [hw]; exact (by (with_reducible repeat (first | apply Kd.V_alloc | apply Kd.V_drewN | apply Kd.V_drew)); exact Kd.V_mono (Kd.V_far (p := ⟨gb289, 4, none⟩) (Kd.V_far (p := ⟨gb289, 3, none⟩) (Kd.V_far (p := ⟨gb289, 2, none⟩) (Kd.V_far (p := ⟨gb289, 1, none⟩) (Kd.V_far (p := ⟨gb289, 0, none⟩) (Kd.V_mono HL288_3.out (fun k_ hk => (⟨hk, hk.2⟩ : _ ∧ k_ ≠ gb289))) (fun _ hk => hk.2) (.int .i64 ((rd_T25 l0_4 x11_1).f0))) (fun _ hk => hk.2) (.int .i64 ((rd_T25 l0_4 x11_1).f1))) (fun _ hk => hk.2) (.int .i64 ((rd_T25 l0_4 x11_1).f2))) (fun _ hk => hk.2) (.slice A288_3 ((rd_T25 l0_4 x11_1).f3).length c288_3)) (fun _ hk => hk.2) (.slice A288_4 ((rd_T25 l0_4 x11_1).f4).length c288_4)) (fun _ hk => ⟨hk.1.1.1, ⟨hk.1.1.2.1, ⟨hk.1.1.2.2, hk.1.2⟩⟩⟩)))⟩; have n5_ : Aside0 (Kd.V k25 25 w15 w.heap.size (fun k_ => ((P0_3_ k_ ∨ P0_4_ k_) ∨ w.heap.size ≤ k_) ∧ some k_ ≠ (u3 : Value).ownBlock ∧ k_ ≠ gb284 ∧ k_ ≠ gb289) (.slice A288_4 ((rd_T25 l0_4 x11_1).f4).length c288_4) ((rd_T25 l0_4 x11_1).f4)) := ⟨(by rw [hw]; exact (by (with_reducible repeat (first | apply Kd.V_alloc | apply Kd.V_drewN | apply Kd.V_drew)); exact Kd.V_mono (Kd.V_far (p := ⟨gb289, 4, none⟩) (Kd.V_far (p := ⟨gb289, 3, none⟩) (Kd.V_far (p := ⟨gb289, 2, none⟩) (Kd.V_far (p := ⟨gb289, 1, none⟩) (Kd.V_far (p := ⟨gb289, 0, none⟩) (Kd.V_mono HL288_4.out (fun k_ hk => (⟨hk, hk.2⟩ : _ ∧ k_ ≠ gb289))) (fun _ hk => hk.2) (.int .i64 ((rd_T25 l0_4 x11_1).f0))) (fun _ hk => hk.2) (.int .i64 ((rd_T25 l0_4 x11_1).f1))) (fun _ hk => hk.2) (.int .i64 ((rd_T25 l0_4 x11_1).f2))) (fun _ hk => hk.2) (.slice A288_3 ((rd_T25 l0_4 x11_1).f3).length c288_3)) (fun _ hk => hk.2) (.slice A288_4 ((rd_T25 l0_4 x11_1).f4).length c288_4)) (fun _ hk => ⟨hk.1.1.1, ⟨hk.1.1.2.1, ⟨hk.1.1.2.2, hk.1.2⟩⟩⟩)))⟩; have n6_ : Aside0 (w15.heap[gb284]? = some (.cells #[.int .i64 a0_0, .int .i64 a0_1, .int .i64 a0_2, .slice A0_3 l0_3.length c0_3, .slice (some ad288) l0_4.length c0_4] 25 (0, 0))) := ⟨(by rw [hw]; exact (by (with_reducible repeat (first | refine blk_drewN ?_ _ | refine blk_drew ?_ | refine blk_alloc ?_ _)); refine blk_far ?_ NB284_289.out _; (with_reducible repeat (first | refine blk_drewN ?_ _ | refine blk_drew ?_ | refine blk_alloc ?_ _)); refine blk_far ?_ NB284_289.out _; (with_reducible repeat (first | refine blk_drewN ?_ _ | refine blk_drew ?_ | refine blk_alloc ?_ _)); refine blk_far ?_ NB284_289.out _; (with_reducible repeat (first | refine blk_drewN ?_ _ | refine blk_drew ?_ | refine blk_alloc ?_ _)); refine blk_far ?_ NB284_289.out _; (with_reducible repeat (first | refine blk_drewN ?_ _ | refine blk_drew ?_ | refine blk_alloc ?_ _)); refine blk_far ?_ NB284_289.out _; (with_reducible repeat (first | refine blk_drewN ?_ _ | refine blk_drew ?_ | refine blk_alloc ?_ _)); exact BK284.out))⟩; have n7_ : Aside0 (w15.heap[gb289]? = some (.cells #[.int .i64 ((rd_T25 l0_4 x11_1).f0), .int .i64 ((rd_T25 l0_4 x11_1).f1), .int .i64 ((rd_T25 l0_4 x11_1).f2), .slice A288_3 ((rd_T25 l0_4 x11_1).f3).length c288_3, .slice A288_4 ((rd_T25 l0_4 x11_1).f4).length c288_4] 25 (0, 0))) := ⟨(by rw [hw]; exact (by (with_reducible repeat (first | refine blk_drewN ?_ _ | refine blk_drew ?_ | refine blk_alloc ?_ _)); refine blk_put (cs := #[.int .i64 ((rd_T25 l0_4 x11_1).f0), .int .i64 ((rd_T25 l0_4 x11_1).f1), .int .i64 ((rd_T25 l0_4 x11_1).f2), .slice A288_3 ((rd_T25 l0_4 x11_1).f3).length c288_3, .slice none 0 0]) ?_ 4 _ rfl; (with_reducible repeat (first | refine blk_drewN ?_ _ | refine blk_drew ?_ | refine blk_alloc ?_ _)); refine blk_put (cs := #[.int .i64 ((rd_T25 l0_4 x11_1).f0), .int .i64 ((rd_T25 l0_4 x11_1).f1), .int .i64 ((rd_T25 l0_4 x11_1).f2), .slice none 0 0, .slice none 0 0]) ?_ 3 _ rfl; (with_reducible repeat (first | refine blk_drewN ?_ _ | refine blk_drew ?_ | refine blk_alloc ?_ _)); refine blk_put (cs := #[.int .i64 ((rd_T25 l0_4 x11_1).f0), .int .i64 ((rd_T25 l0_4 x11_1).f1), .int .i64 0, .slice none 0 0, .slice none 0 0]) ?_ 2 _ rfl; (with_reducible repeat (first | refine blk_drewN ?_ _ | refine blk_drew ?_ | refine blk_alloc ?_ _)); refine blk_put (cs := #[.int .i64 ((rd_T25 l0_4 x11_1).f0), .int .i64 0, .int .i64 0, .slice none 0 0, .slice none 0 0]) ?_ 1 _ rfl; (with_reducible repeat (first | refine blk_drewN ?_ _ | refine blk_drew ?_ | refine blk_alloc ?_ _)); refine blk_put (cs := #[.int .i64 0, .int .i64 0, .int .i64 0, .slice none 0 0, .slice none 0 0]) ?_ 0 _ rfl; (with_reducible repeat (first | refine blk_drewN ?_ _ | refine blk_drew ?_ | refine blk_alloc ?_ _)); exact BK289.out))⟩; have n8_ : Aside0 (Below w.heap.size w w15) := ⟨(by rw [hw]; exact (by repeat (first | (with_reducible first | exact HB.out | apply below_alloc | apply pw_below_drewN | apply below_drew1 | refine below_set ?_ GE284.out | refine below_set ?_ GE289.out) | exact HB.out)))⟩; clear hw; clear HO_3; clear HO_9; clear HO_285003; clear HO_285004; clear HL288_3; clear HL288_4; clear BK284; clear BK289; clear HB; have HO_3 := n0_; have HO_9 := n1_; have HO_285003 := n2_; have HO_285004 := n3_; have HL288_3 := n4_; have HL288_4 := n5_; have BK284 := n6_; have BK289 := n7_; have HB := n8_; clear n0_ n1_ n2_ n3_ n4_ n5_ n6_ n7_ n8_; have hcz16_0 : w15.cell? ⟨gb289, 0, none⟩ = some (.int .i64 ((rd_T25 l0_4 x11_1).f0)) := (blk_cell BK289.out 0).trans rfl; have hcz16_1 : w15.cell? ⟨gb289, 1, none⟩ = some (.int .i64 ((rd_T25 l0_4 x11_1).f1)) := (blk_cell BK289.out 1).trans rfl; have hcz16_2 : w15.cell? ⟨gb289, 2, none⟩ = some (.int .i64 ((rd_T25 l0_4 x11_1).f2)) := (blk_cell BK289.out 2).trans rfl; have hcz16_3 : w15.cell? ⟨gb289, 3, none⟩ = some (.slice A288_3 ((rd_T25 l0_4 x11_1).f3).length c288_3) := (blk_cell BK289.out 3).trans rfl; have hcz16_4 : w15.cell? ⟨gb289, 4, none⟩ = some (.slice A288_4 ((rd_T25 l0_4 x11_1).f4).length c288_4) := (blk_cell BK289.out 4).trans rfl; have hfz16_0 := blk_frozen BK289.out 0; have hfz16_1 := blk_frozen BK289.out 1; have hfz16_2 := blk_frozen BK289.out 2; have hfz16_3 := blk_frozen BK289.out 3; have hfz16_4 := blk_frozen BK289.out 4) | ((with_reducible refine gate_callee (f := 10) rfl ?_); refine goesL_ (some 17) rfl rfl Try.func10 (by kernel_rfl) rfl #[.agg #[.int .i64 ((rd_T25 l0_4 x11_1).f0), .int .i64 ((rd_T25 l0_4 x11_1).f1), .int .i64 ((rd_T25 l0_4 x11_1).f2), .slice A288_3 ((rd_T25 l0_4 x11_1).f3).length c288_3, .slice A288_4 ((rd_T25 l0_4 x11_1).f4).length c288_4]] rfl (by (try simp only [List.map_toArray, List.map_cons, List.map_nil]); first | done | rfl | (simp only [List.length_drop, List.length_take]; rfl)) ?_; (with_reducible refine (ih k1 (by have := HK1.out; omega) ((rd_T25 l0_4 x11_1).f0) ((rd_T25 l0_4 x11_1).f1) ((rd_T25 l0_4 x11_1).f2) (fun k_ => (((P0_3_ k_ ∨ P0_4_ k_) ∨ w.heap.size ≤ k_) ∧ (some k_ ≠ (u3 : Value).ownBlock ∧ (k_ ≠ gb284 ∧ k_ ≠ gb289)))) _ _ ((rd_T25 l0_4 x11_1).f3) (fun k_ => (((P0_3_ k_ ∨ P0_4_ k_) ∨ w.heap.size ≤ k_) ∧ (some k_ ≠ (u3 : Value).ownBlock ∧ (k_ ≠ gb284 ∧ k_ ≠ gb289)))) _ _ ((rd_T25 l0_4 x11_1).f4) t290 _ ?side1 ?side2 A10.out).mono ?_); (case side1 => exact HL288_3.out); (case side2 => exact HL288_4.out); rintro e w17 ⟨v291, rfl, ho0, hb⟩; refine ⟨_, rfl, ?_⟩; have n0_ := Aside0.mk (Kd.N_elder' (by (with_reducible repeat (first | apply Kd.N_alloc | apply Kd.N_drewN | apply Kd.N_drew)); exact HO_3.out) (Kd.N_base ho0) hb); have n1_ := Aside0.mk (Kd.V_elder' (by (with_reducible repeat (first | apply Kd.V_alloc | apply Kd.V_drewN | apply Kd.V_drew)); exact HO_9.out) (Kd.N_base ho0) hb); have n2_ := Aside0.mk (Kd.V_elder' (by (with_reducible repeat (first | apply Kd.V_alloc | apply Kd.V_drewN | apply Kd.V_drew)); exact HO_285003.out) (Kd.N_base ho0) hb); have n3_ := Aside0.mk (Kd.V_elder' (by (with_reducible repeat (first | apply Kd.V_alloc | apply Kd.V_drewN | apply Kd.V_drew)); exact HO_285004.out) (Kd.N_base ho0) hb); have n4_ := Aside0.mk (Kd.V_elder' (by (with_reducible repeat (first | apply Kd.V_alloc | apply Kd.V_drewN | apply Kd.V_drew)); exact HL288_3.out) (Kd.N_base ho0) hb); have n5_ := Aside0.mk (Kd.V_elder' (by (with_reducible repeat (first | apply Kd.V_alloc | apply Kd.V_drewN | apply Kd.V_drew)); exact HL288_4.out) (Kd.N_base ho0) hb); have n6_ := Aside0.mk (Kd.N_lower (Kd.N_mono (ok' := fun k_ => ((P0_3_ k_ ∨ P0_4_ k_) ∨ w.heap.size ≤ k_) ∧ some k_ ≠ (u3 : Value).ownBlock ∧ k_ ≠ gb284 ∧ k_ ≠ gb289) ho0 (fun k_ hk_ => ⟨Or.elim hk_ (fun hs_ => Or.elim hs_ (fun hs_ => hs_.1) (fun hs_ => hs_.1)) (fun hn_ => (.inr (Nat.le_trans (below_size (by repeat (first | (with_reducible first | exact HB.out | apply below_alloc | apply pw_below_drewN | apply below_drew1 | refine below_set ?_ GE284.out | refine below_set ?_ GE289.out) | exact HB.out))) hn_))), Or.elim hk_ (fun hs_ => Or.elim hs_ (fun hs_ => hs_.2.1) (fun hs_ => hs_.2.1)) (fun hn_ => (Kd.fresh' (Kd.N_lt (by (with_reducible repeat (first | apply Kd.N_alloc | apply Kd.N_drewN | apply Kd.N_drew)); exact HO_3.out)) k_ hn_)), Or.elim hk_ (fun hs_ => Or.elim hs_ (fun hs_ => hs_.2.2.1) (fun hs_ => hs_.2.2.1)) (fun hn_ => (Kd.freshB (g := gb284) (o := .cells #[.int .i64 a0_0, .int .i64 a0_1, .int .i64 a0_2, .slice A0_3 l0_3.length c0_3, .slice (some ad288) l0_4.length c0_4] 25 (0, 0)) (by (with_reducible repeat (first | refine blk_drewN ?_ _ | refine blk_drew ?_ | refine blk_alloc ?_ _)); exact BK284.out) k_ hn_)), Or.elim hk_ (fun hs_ => Or.elim hs_ (fun hs_ => hs_.2.2.2) (fun hs_ => hs_.2.2.2)) (fun hn_ => (Kd.freshB (g := gb289) (o := .cells #[.int .i64 ((rd_T25 l0_4 x11_1).f0), .int .i64 ((rd_T25 l0_4 x11_1).f1), .int .i64 ((rd_T25 l0_4 x11_1).f2), .slice A288_3 ((rd_T25 l0_4 x11_1).f3).length c288_3, .slice A288_4 ((rd_T25 l0_4 x11_1).f4).length c288_4] 25 (0, 0)) (by (with_reducible repeat (first | refine blk_drewN ?_ _ | refine blk_drew ?_ | refine blk_alloc ?_ _)); exact BK289.out) k_ hn_))⟩)) (below_size (by repeat (first | (with_reducible first | exact HB.out | apply below_alloc | apply pw_below_drewN | apply below_drew1 | refine below_set ?_ GE284.out | refine below_set ?_ GE289.out) | exact HB.out)))); have n7_ := Aside0.mk (blk_below (g := gb284) (o := .cells #[.int .i64 a0_0, .int .i64 a0_1, .int .i64 a0_2, .slice A0_3 l0_3.length c0_3, .slice (some ad288) l0_4.length c0_4] 25 (0, 0)) (by (with_reducible repeat (first | refine blk_drewN ?_ _ | refine blk_drew ?_ | refine blk_alloc ?_ _)); exact BK284.out) hb); (try have n8_ := Aside0.mk (Kd.C_below (by repeat (first | (with_reducible exact HR288_3.out) | (with_reducible refine Kd.C_alloc ?_ _) | (with_reducible refine Kd.C_drewN ?_ _) | (with_reducible refine Kd.C_drew ?_) | exact HR288_3.out)) hb)); (try have n9_ := Aside0.mk (Kd.C_below (by repeat (first | (with_reducible exact HR288_4.out) | (with_reducible refine Kd.C_alloc ?_ _) | (with_reducible refine Kd.C_drewN ?_ _) | (with_reducible refine Kd.C_drew ?_) | exact HR288_4.out)) hb)); have n10_ := Aside0.mk (blk_below (g := gb289) (o := .cells #[.int .i64 ((rd_T25 l0_4 x11_1).f0), .int .i64 ((rd_T25 l0_4 x11_1).f1), .int .i64 ((rd_T25 l0_4 x11_1).f2), .slice A288_3 ((rd_T25 l0_4 x11_1).f3).length c288_3, .slice A288_4 ((rd_T25 l0_4 x11_1).f4).length c288_4] 25 (0, 0)) (by (with_reducible repeat (first | refine blk_drewN ?_ _ | refine blk_drew ?_ | refine blk_alloc ?_ _)); exact BK289.out) hb); have n11_ := Aside0.mk (below_step (by repeat (first | (with_reducible first | exact HB.out | apply below_alloc | apply pw_below_drewN | apply below_drew1 | refine below_set ?_ GE284.out | refine below_set ?_ GE289.out) | exact HB.out)) hb); clear HO_3; clear HO_9; clear HO_285003; clear HO_285004; clear HL288_3; clear HL288_4; clear BK284; clear HR288_3; clear HR288_4; clear BK289; clear HB; have HO_3 := n0_; have HO_9 := n1_; have HO_285003 := n2_; have HO_285004 := n3_; have HL288_3 := n4_; have HL288_4 := n5_; have HO292 := n6_; have BK284 := n7_; (try have HR288_3 := n8_); (try have HR288_4 := n9_); have BK289 := n10_; have HB := n11_; clear n0_ n1_ n2_ n3_ n4_ n5_ n6_ n7_ n10_ n11_; (try clear n8_); (try clear n9_); (try clear hb); (try clear hb2); (try clear hk); (try clear hi); (try clear ho0); obtain ⟨Ao19, co19, eo19⟩ := Kd.N_slice HO292.out; subst eo19) | ((with_reducible refine gate_builtin (b := .append) (xs := #[.tmp 15, .tmp 17]) rfl ?_); at_builtin; refine Kd.N_append_rows k25 (w0 := w) w.heap.size rfl (.tmp 15) (.tmp 17) 23 25 (.agg #[(.int .i64 0), (.int .i64 0), (.int .i64 0), (.slice none 0 0), (.slice none 0 0)]) 72 rfl Try.underlying23 info25 rfl (by decide) (by omega) u3 x3_1 t290 _ _ _ (fun k_ => ((P0_3_ k_ ∨ P0_4_ k_) ∨ w.heap.size ≤ k_) ∧ k_ ≠ gb284 ∧ k_ ≠ gb289) (fun k_ => ((fun k_ => ((P0_3_ k_ ∨ P0_4_ k_) ∨ w.heap.size ≤ k_) ∧ k_ ≠ gb284 ∧ k_ ≠ gb289)) k_ ∧ some k_ ≠ (u3 : Value).ownBlock) rfl rfl ?aO ?aR (fun _ hk => hk) ?aF ?aB ?aS ?aL ?_; (case aR => exact (by skip; exact Kd.N_F (Kd.N_mono (ok' := (fun k_ => ((fun k_ => ((P0_3_ k_ ∨ P0_4_ k_) ∨ w.heap.size ≤ k_) ∧ k_ ≠ gb284 ∧ k_ ≠ gb289)) k_ ∧ some k_ ≠ (u3 : Value).ownBlock)) (HO292.out) (fun k_ hk => ⟨⟨hk.1, ⟨hk.2.2.1, hk.2.2.2⟩⟩, hk.2.1⟩)))); (case aB => exact (by repeat (first | (with_reducible first | exact HB.out | apply below_alloc | apply pw_below_drewN | apply below_drew1 | refine below_set ?_ GE284.out | refine below_set ?_ GE289.out) | exact HB.out))); (case aF => exact (fun k_ hk => ⟨(.inr (Nat.le_trans (below_size (by repeat (first | (with_reducible first | exact HB.out | apply below_alloc | apply pw_below_drewN | apply below_drew1 | refine below_set ?_ GE284.out | refine below_set ?_ GE289.out) | exact HB.out))) hk)), Kd.freshB (g := gb284) (o := .cells #[.int .i64 a0_0, .int .i64 a0_1, .int .i64 a0_2, .slice A0_3 l0_3.length c0_3, .slice (some ad288) l0_4.length c0_4] 25 (0, 0)) (by (with_reducible repeat (first | refine blk_drewN ?_ _ | refine blk_drew ?_ | refine blk_alloc ?_ _)); exact BK284.out) k_ hk, Kd.freshB (g := gb289) (o := .cells #[.int .i64 ((rd_T25 l0_4 x11_1).f0), .int .i64 ((rd_T25 l0_4 x11_1).f1), .int .i64 ((rd_T25 l0_4 x11_1).f2), .slice A288_3 ((rd_T25 l0_4 x11_1).f3).length c288_3, .slice A288_4 ((rd_T25 l0_4 x11_1).f4).length c288_4] 25 (0, 0)) (by (with_reducible repeat (first | refine blk_drewN ?_ _ | refine blk_drew ?_ | refine blk_alloc ?_ _)); exact BK289.out) k_ hk⟩)); (case aO => exact (by (with_reducible repeat (first | apply Kd.N_alloc | apply Kd.N_drewN | apply Kd.N_drew)); exact Kd.N_mono HO_3.out (fun _ hk => ⟨hk.1.1, ⟨hk.1.2.1, hk.1.2.2⟩⟩))); (case aS => exact (below_size (by repeat (first | (with_reducible first | exact HB.out | apply below_alloc | apply pw_below_drewN | apply below_drew1 | refine below_set ?_ GE284.out | refine below_set ?_ GE289.out) | exact HB.out)))); (case aL => have := LMc11.out; omega); intro v294 w18 ho hb hg hat; rw [← Ny293.out] at ho; have n0_ := Aside0.mk (Kd.V_afterv (ok := (fun k_ => ((P0_3_ k_ ∨ P0_4_ k_) ∨ w.heap.size ≤ k_) ∧ some k_ ≠ (.slice Ao19 t290.length co19 : Value).ownBlock ∧ k_ ≠ gb284 ∧ k_ ≠ gb289)) (by (with_reducible repeat (first | apply Kd.V_alloc | apply Kd.V_drewN | apply Kd.V_drew)); exact Kd.V_mono HO_9.out (fun _ hk => ⟨⟨hk.1.1, ⟨hk.2, ⟨hk.1.2.2.1, hk.1.2.2.2⟩⟩⟩, hk.1.2.1⟩)) hg hat); have n1_ := Aside0.mk (Kd.V_afterv (ok := (fun k_ => ((P0_3_ k_ ∨ P0_4_ k_) ∨ w.heap.size ≤ k_) ∧ some k_ ≠ (.slice Ao19 t290.length co19 : Value).ownBlock ∧ k_ ≠ gb284 ∧ k_ ≠ gb289)) (by (with_reducible repeat (first | apply Kd.V_alloc | apply Kd.V_drewN | apply Kd.V_drew)); exact Kd.V_mono HO_285003.out (fun _ hk => ⟨⟨hk.1.1, ⟨hk.2, ⟨hk.1.2.2.1, hk.1.2.2.2⟩⟩⟩, hk.1.2.1⟩)) hg hat); have n2_ := Aside0.mk (Kd.V_afterv (ok := (fun k_ => ((P0_3_ k_ ∨ P0_4_ k_) ∨ w.heap.size ≤ k_) ∧ some k_ ≠ (.slice Ao19 t290.length co19 : Value).ownBlock ∧ k_ ≠ gb284 ∧ k_ ≠ gb289)) (by (with_reducible repeat (first | apply Kd.V_alloc | apply Kd.V_drewN | apply Kd.V_drew)); exact Kd.V_mono HO_285004.out (fun _ hk => ⟨⟨hk.1.1, ⟨hk.2, ⟨hk.1.2.2.1, hk.1.2.2.2⟩⟩⟩, hk.1.2.1⟩)) hg hat); have n3_ := Aside0.mk (blk_grown (g := gb284) (o := .cells #[.int .i64 a0_0, .int .i64 a0_1, .int .i64 a0_2, .slice A0_3 l0_3.length c0_3, .slice (some ad288) l0_4.length c0_4] 25 (0, 0)) (by (with_reducible repeat (first | refine blk_drewN ?_ _ | refine blk_drew ?_ | refine blk_alloc ?_ _)); exact BK284.out) hg (Kd.N_away HO_3.out (fun _ hk => hk.1.2.1))); have n4_ := Aside0.mk (Kd.V_afterv (ok := (fun k_ => ((P0_3_ k_ ∨ P0_4_ k_) ∨ w.heap.size ≤ k_) ∧ some k_ ≠ (.slice Ao19 t290.length co19 : Value).ownBlock ∧ k_ ≠ gb284 ∧ k_ ≠ gb289)) (by (with_reducible repeat (first | apply Kd.V_alloc | apply Kd.V_drewN | apply Kd.V_drew)); exact Kd.V_mono HL288_3.out (fun _ hk => ⟨⟨hk.1.1, ⟨hk.2, ⟨hk.1.2.2.1, hk.1.2.2.2⟩⟩⟩, hk.1.2.1⟩)) hg hat); have n5_ := Aside0.mk (Kd.V_afterv (ok := (fun k_ => ((P0_3_ k_ ∨ P0_4_ k_) ∨ w.heap.size ≤ k_) ∧ some k_ ≠ (.slice Ao19 t290.length co19 : Value).ownBlock ∧ k_ ≠ gb284 ∧ k_ ≠ gb289)) (by (with_reducible repeat (first | apply Kd.V_alloc | apply Kd.V_drewN | apply Kd.V_drew)); exact Kd.V_mono HL288_4.out (fun _ hk => ⟨⟨hk.1.1, ⟨hk.2, ⟨hk.1.2.2.1, hk.1.2.2.2⟩⟩⟩, hk.1.2.1⟩)) hg hat); have n6_ := Aside0.mk (blk_grown (g := gb289) (o := .cells #[.int .i64 ((rd_T25 l0_4 x11_1).f0), .int .i64 ((rd_T25 l0_4 x11_1).f1), .int .i64 ((rd_T25 l0_4 x11_1).f2), .slice A288_3 ((rd_T25 l0_4 x11_1).f3).length c288_3, .slice A288_4 ((rd_T25 l0_4 x11_1).f4).length c288_4] 25 (0, 0)) (by (with_reducible repeat (first | refine blk_drewN ?_ _ | refine blk_drew ?_ | refine blk_alloc ?_ _)); exact BK289.out) hg (Kd.N_away HO_3.out (fun _ hk => hk.1.2.2))); have n7_ := Aside0.mk (Kd.N_afterv (ok := (fun k_ => ((P0_3_ k_ ∨ P0_4_ k_) ∨ w.heap.size ≤ k_) ∧ k_ ≠ gb284 ∧ k_ ≠ gb289)) (by (with_reducible repeat (first | apply Kd.N_alloc | apply Kd.N_drewN | apply Kd.N_drew)); exact Kd.N_mono HO292.out (fun _ hk => ⟨⟨hk.1, ⟨hk.2.2.1, hk.2.2.2⟩⟩, hk.2.1⟩)) hg hat); have n8_ := Aside0.mk (hb); have n9_ := Aside0.mk (ho); clear HO_9; clear HO_285003; clear HO_285004; clear BK284; clear HL288_3; clear HL288_4; clear BK289; clear HO292; clear HB; clear HO_3; have HO_9 := n0_; have HO_285003 := n1_; have HO_285004 := n2_; have BK284 := n3_; have HL288_3 := n4_; have HL288_4 := n5_; have BK289 := n6_; have HO292 := n7_; have HB := n8_; have HO295 := n9_; clear n0_ n1_ n2_ n3_ n4_ n5_ n6_ n7_ n8_ n9_; clear ho hb hg hat))
              go_roundg k1
              case measure => have := HK1.out; omega
              case rel => exact ⟨(y293), (wrap64 (x11_1 + 1)), (by first | rfl | (simp; done) | (simp [*]; done)), H', ⟨by have := HK1.out; omega⟩, ⟨by (with_reducible repeat (first | apply Kd.N_alloc | apply Kd.N_drewN | apply Kd.N_drew)); exact Kd.N_mono HO295.out (fun _ hk => ⟨hk.1, hk.2.1⟩)⟩, ⟨by (with_reducible repeat (first | apply Kd.V_alloc | apply Kd.V_drewN | apply Kd.V_drew)); exact Kd.V_mono HO_9.out (fun _ hk => ⟨hk.1.1, ⟨hk.2, hk.1.2.2.1⟩⟩)⟩, ⟨by (with_reducible repeat (first | apply Kd.V_alloc | apply Kd.V_drewN | apply Kd.V_drew)); exact Kd.V_mono HO_285003.out (fun _ hk => ⟨hk.1.1, ⟨hk.2, hk.1.2.2.1⟩⟩)⟩, ⟨by (with_reducible repeat (first | apply Kd.V_alloc | apply Kd.V_drewN | apply Kd.V_drew)); exact Kd.V_mono HO_285004.out (fun _ hk => ⟨hk.1.1, ⟨hk.2, hk.1.2.2.1⟩⟩)⟩, ⟨by (with_reducible repeat (first | refine blk_drewN ?_ _ | refine blk_drew ?_ | refine blk_alloc ?_ _)); exact BK284.out⟩, ⟨by repeat (first | (with_reducible first | exact HB.out | apply below_alloc | apply pw_below_drewN | apply below_drew1 | refine below_set ?_ GE284.out | refine below_set ?_ GE289.out) | exact HB.out)⟩⟩
            · rw [if_neg c11] at H
              exact absurd H (by simp)
          · rw [if_neg c9] at H
            exact absurd H (by simp)
        · rw [if_neg c8] at H
          exact absurd H (by simp)
      · rw [if_neg c7] at H
        have c7b0 : decide (x11_1 < (l0_4.length : Int)) = false := decide_eq_false c7
        clear c7
        obtain rfl := Option.some.inj H
        go_wp2
        go_ret
        exact ⟨_, by first | rfl | (simp [errW_none, errW_some] <;> rfl) | (simp [*, errW_none, errW_some] <;> rfl), by (with_reducible repeat (first | apply Kd.N_alloc | apply Kd.N_drewN | apply Kd.N_drew)); exact Kd.N_mono HO_3.out (fun _ hk => hk.1), by repeat (first | (with_reducible first | exact HB.out | apply below_alloc | apply pw_below_drewN | apply below_drew1 | refine below_set ?_ GE284.out) | exact HB.out)⟩
def gjson_parseNumber.l0 : Nat → ByteArray → Int → Int → Option (Int × ByteArray)
  | 0, _, _, _ => none
  | k + 1, x0, x1, x6 => if x1 < (x0.size : Int) then (if 0 ≤ x1 then (if (bt x0 x1) ≤ 32 then (if 0 ≤ x6 then (if x6 ≤ x1 then (if x1 ≤ (x0.size : Int) then (some (x1, x0.extract (x6 : Int).toNat (x1 : Int).toNat)) else (none)) else (none)) else (none)) else (if (bt x0 x1) = 44 then (if 0 ≤ x6 then (if x6 ≤ x1 then (if x1 ≤ (x0.size : Int) then (some (x1, x0.extract (x6 : Int).toNat (x1 : Int).toNat)) else (none)) else (none)) else (none)) else (if (bt x0 x1) = 93 then (if 0 ≤ x6 then (if x6 ≤ x1 then (if x1 ≤ (x0.size : Int) then (some (x1, x0.extract (x6 : Int).toNat (x1 : Int).toNat)) else (none)) else (none)) else (none)) else (if (bt x0 x1) = 125 then (if 0 ≤ x6 then (if x6 ≤ x1 then (if x1 ≤ (x0.size : Int) then (some (x1, x0.extract (x6 : Int).toNat (x1 : Int).toNat)) else (none)) else (none)) else (none)) else (gjson_parseNumber.l0 k x0 (wrap64 (x1 + 1)) x6))))) else (none)) else (if 0 ≤ x6 then (if x6 ≤ (x0.size : Int) then (some (x1, x0.extract (x6 : Int).toNat x0.size)) else (none)) else (none))
def gjson_parseNumber.f (k : Nat) (a0 : ByteArray) (a1 : Int) : Option (Int × ByteArray) := gjson_parseNumber.l0 k a0 (wrap64 (a1 + 1)) a1
set_option maxHeartbeats 8000000 in
set_option maxRecDepth 100000 in
theorem gjson_parseNumber.calls (k : Nat) (a0 : ByteArray) (a1 : Int) (r1 : Int) (r2 : ByteArray) (w : World) (h : gjson_parseNumber.f k a0 a1 = some (r1, r2)) :
    Calls Try.prog 40 #[.string a0, .int .i64 a1] w fun e w' => e = .returned (.tuple #[.int .i64 r1, .string r2]) ∧ Drawn0 w w' := by
  have H : (gjson_parseNumber.l0 k a0 (wrap64 (a1 + 1)) a1) = some (r1, r2) := h
  clear h
  have H' := Aside0.mk H
  clear H
  go_enter Try.func40, Try.ntmps40
  go_wp2
  repeat (go_quiet (fail); try go_wp2)
  try simp only [Act.put, List.setIfInBounds_toArray, List.set_cons_succ, List.set_cons_zero]
  go_loopg [1] k (fun kq v1 w' => ∃ (x1_1 : Int), v1 = .int .i64 x1_1 ∧ Aside0 (gjson_parseNumber.l0 kq a0 x1_1 a1 = some (r1, r2)) ∧ Aside0 (kq ≤ k) ∧ Drawn0 w w')
  case atStart => exact ⟨(wrap64 (a1 + 1)), (by first | rfl | (simp; done) | (simp [*]; done)), H', ⟨Nat.le_refl _⟩, by repeat (first | exact Drawn0.refl _ | apply Drawn0.step)⟩
  case round =>
    clear H'
    try clear p2
    obtain ⟨x1_1, rfl, HA, HK1, ⟨m1, rfl⟩⟩ := hrel
    cases gk with
    | zero => exact absurd HA.out (by simp [gjson_parseNumber.l0])
    | succ k1 =>
      have H := HA.out
      clear HA
      simp only [gjson_parseNumber.l0] at H
      by_cases c3 : x1_1 < (a0.size : Int)
      · rw [if_pos c3] at H
        have c3b0 : decide (x1_1 < (a0.size : Int)) = true := decide_eq_true c3
        clear c3
        by_cases c4 : 0 ≤ x1_1
        · rw [if_pos c4] at H
          have c4b0 : decide (0 ≤ x1_1) = true := decide_eq_true c4
          clear c4
          by_cases c6 : (bt a0 x1_1) ≤ 32
          · rw [if_pos c6] at H
            have c6b0 : decide ((bt a0 x1_1) ≤ 32) = true := decide_eq_true c6
            clear c6
            by_cases c7 : 0 ≤ a1
            · rw [if_pos c7] at H
              have c7b0 := eq_true c7
              have c7b1 : decide (0 ≤ a1) = true := decide_eq_true c7
              clear c7
              by_cases c8 : a1 ≤ x1_1
              · rw [if_pos c8] at H
                have c8b0 := eq_true c8
                have c8b1 : decide (a1 ≤ x1_1) = true := decide_eq_true c8
                clear c8
                by_cases c9 : x1_1 ≤ (a0.size : Int)
                · rw [if_pos c9] at H
                  have c9b0 := eq_true c9
                  have c9b1 : decide (x1_1 ≤ (a0.size : Int)) = true := decide_eq_true c9
                  clear c9
                  simp only [Option.some.injEq, Prod.mk.injEq] at H
                  obtain ⟨rfl, rfl⟩ := H
                  have p5 : 0 ≤ (x1_1 : Int) := of_decide_eq_true (by first | (with_reducible assumption) | assumption)
                  have q5 : x1_1 < (a0.size : Int) := of_decide_eq_true (by first | (with_reducible assumption) | assumption)
                  have hx5 := bt_at a0 x1_1
                  replace p5 := eq_true p5
                  replace q5 := eq_true q5
                  go_wp2
                  repeat (go_quiet (fail); try go_wp2)
                  go_ret2
                  exact ⟨by first | rfl | (simp; done) | (simp [*]; done), by repeat (first | exact Drawn0.refl _ | apply Drawn0.step)⟩
                · rw [if_neg c9] at H
                  exact absurd H (by simp)
              · rw [if_neg c8] at H
                exact absurd H (by simp)
            · rw [if_neg c7] at H
              exact absurd H (by simp)
          · rw [if_neg c6] at H
            have c6b0 : decide ((bt a0 x1_1) ≤ 32) = false := decide_eq_false c6
            clear c6
            by_cases c11 : (bt a0 x1_1) = 44
            · rw [if_pos c11] at H
              have c11b0 : ((bt a0 x1_1) == 44) = true := beq_iff_eq.mpr c11
              have c11b1 : ((bt a0 x1_1) != 44) = false := bne_eq_false_iff_eq.mpr c11
              clear c11
              by_cases c12 : 0 ≤ a1
              · rw [if_pos c12] at H
                have c12b0 := eq_true c12
                have c12b1 : decide (0 ≤ a1) = true := decide_eq_true c12
                clear c12
                by_cases c13 : a1 ≤ x1_1
                · rw [if_pos c13] at H
                  have c13b0 := eq_true c13
                  have c13b1 : decide (a1 ≤ x1_1) = true := decide_eq_true c13
                  clear c13
                  by_cases c14 : x1_1 ≤ (a0.size : Int)
                  · rw [if_pos c14] at H
                    have c14b0 := eq_true c14
                    have c14b1 : decide (x1_1 ≤ (a0.size : Int)) = true := decide_eq_true c14
                    clear c14
                    simp only [Option.some.injEq, Prod.mk.injEq] at H
                    obtain ⟨rfl, rfl⟩ := H
                    have p5 : 0 ≤ (x1_1 : Int) := of_decide_eq_true (by first | (with_reducible assumption) | assumption)
                    have q5 : x1_1 < (a0.size : Int) := of_decide_eq_true (by first | (with_reducible assumption) | assumption)
                    have hx5 := bt_at a0 x1_1
                    replace p5 := eq_true p5
                    replace q5 := eq_true q5
                    have p10 : 0 ≤ (x1_1 : Int) := of_decide_eq_true (by first | (with_reducible assumption) | assumption)
                    have q10 : x1_1 < (a0.size : Int) := of_decide_eq_true (by first | (with_reducible assumption) | assumption)
                    have hx10 := bt_at a0 x1_1
                    replace p10 := eq_true p10
                    replace q10 := eq_true q10
                    go_wp2
                    repeat (go_quiet (fail); try go_wp2)
                    go_ret2
                    exact ⟨by first | rfl | (simp; done) | (simp [*]; done), by repeat (first | exact Drawn0.refl _ | apply Drawn0.step)⟩
                  · rw [if_neg c14] at H
                    exact absurd H (by simp)
                · rw [if_neg c13] at H
                  exact absurd H (by simp)
              · rw [if_neg c12] at H
                exact absurd H (by simp)
            · rw [if_neg c11] at H
              have c11b0 : ((bt a0 x1_1) == 44) = false := beq_eq_false_iff_ne.mpr c11
              have c11b1 : ((bt a0 x1_1) != 44) = true := bne_iff_ne.mpr c11
              by_cases c16 : (bt a0 x1_1) = 93
              · rw [if_pos c16] at H
                have c16b0 : ((bt a0 x1_1) == 93) = true := beq_iff_eq.mpr c16
                have c16b1 : ((bt a0 x1_1) != 93) = false := bne_eq_false_iff_eq.mpr c16
                clear c16
                by_cases c17 : 0 ≤ a1
                · rw [if_pos c17] at H
                  have c17b0 := eq_true c17
                  have c17b1 : decide (0 ≤ a1) = true := decide_eq_true c17
                  clear c17
                  by_cases c18 : a1 ≤ x1_1
                  · rw [if_pos c18] at H
                    have c18b0 := eq_true c18
                    have c18b1 : decide (a1 ≤ x1_1) = true := decide_eq_true c18
                    clear c18
                    by_cases c19 : x1_1 ≤ (a0.size : Int)
                    · rw [if_pos c19] at H
                      have c19b0 := eq_true c19
                      have c19b1 : decide (x1_1 ≤ (a0.size : Int)) = true := decide_eq_true c19
                      clear c19
                      simp only [Option.some.injEq, Prod.mk.injEq] at H
                      obtain ⟨rfl, rfl⟩ := H
                      have p5 : 0 ≤ (x1_1 : Int) := of_decide_eq_true (by first | (with_reducible assumption) | assumption)
                      have q5 : x1_1 < (a0.size : Int) := of_decide_eq_true (by first | (with_reducible assumption) | assumption)
                      have hx5 := bt_at a0 x1_1
                      replace p5 := eq_true p5
                      replace q5 := eq_true q5
                      have p10 : 0 ≤ (x1_1 : Int) := of_decide_eq_true (by first | (with_reducible assumption) | assumption)
                      have q10 : x1_1 < (a0.size : Int) := of_decide_eq_true (by first | (with_reducible assumption) | assumption)
                      have hx10 := bt_at a0 x1_1
                      replace p10 := eq_true p10
                      replace q10 := eq_true q10
                      have p15 : 0 ≤ (x1_1 : Int) := of_decide_eq_true (by first | (with_reducible assumption) | assumption)
                      have q15 : x1_1 < (a0.size : Int) := of_decide_eq_true (by first | (with_reducible assumption) | assumption)
                      have hx15 := bt_at a0 x1_1
                      replace p15 := eq_true p15
                      replace q15 := eq_true q15
                      go_wp2
                      repeat (go_quiet (fail); try go_wp2)
                      go_ret2
                      exact ⟨by first | rfl | (simp; done) | (simp [*]; done), by repeat (first | exact Drawn0.refl _ | apply Drawn0.step)⟩
                    · rw [if_neg c19] at H
                      exact absurd H (by simp)
                  · rw [if_neg c18] at H
                    exact absurd H (by simp)
                · rw [if_neg c17] at H
                  exact absurd H (by simp)
              · rw [if_neg c16] at H
                have c16b0 : ((bt a0 x1_1) == 93) = false := beq_eq_false_iff_ne.mpr c16
                have c16b1 : ((bt a0 x1_1) != 93) = true := bne_iff_ne.mpr c16
                by_cases c21 : (bt a0 x1_1) = 125
                · rw [if_pos c21] at H
                  have c21b0 : ((bt a0 x1_1) == 125) = true := beq_iff_eq.mpr c21
                  have c21b1 : ((bt a0 x1_1) != 125) = false := bne_eq_false_iff_eq.mpr c21
                  clear c21
                  by_cases c22 : 0 ≤ a1
                  · rw [if_pos c22] at H
                    have c22b0 := eq_true c22
                    have c22b1 : decide (0 ≤ a1) = true := decide_eq_true c22
                    clear c22
                    by_cases c23 : a1 ≤ x1_1
                    · rw [if_pos c23] at H
                      have c23b0 := eq_true c23
                      have c23b1 : decide (a1 ≤ x1_1) = true := decide_eq_true c23
                      clear c23
                      by_cases c24 : x1_1 ≤ (a0.size : Int)
                      · rw [if_pos c24] at H
                        have c24b0 := eq_true c24
                        have c24b1 : decide (x1_1 ≤ (a0.size : Int)) = true := decide_eq_true c24
                        clear c24
                        simp only [Option.some.injEq, Prod.mk.injEq] at H
                        obtain ⟨rfl, rfl⟩ := H
                        have p5 : 0 ≤ (x1_1 : Int) := of_decide_eq_true (by first | (with_reducible assumption) | assumption)
                        have q5 : x1_1 < (a0.size : Int) := of_decide_eq_true (by first | (with_reducible assumption) | assumption)
                        have hx5 := bt_at a0 x1_1
                        replace p5 := eq_true p5
                        replace q5 := eq_true q5
                        have p10 : 0 ≤ (x1_1 : Int) := of_decide_eq_true (by first | (with_reducible assumption) | assumption)
                        have q10 : x1_1 < (a0.size : Int) := of_decide_eq_true (by first | (with_reducible assumption) | assumption)
                        have hx10 := bt_at a0 x1_1
                        replace p10 := eq_true p10
                        replace q10 := eq_true q10
                        have p15 : 0 ≤ (x1_1 : Int) := of_decide_eq_true (by first | (with_reducible assumption) | assumption)
                        have q15 : x1_1 < (a0.size : Int) := of_decide_eq_true (by first | (with_reducible assumption) | assumption)
                        have hx15 := bt_at a0 x1_1
                        replace p15 := eq_true p15
                        replace q15 := eq_true q15
                        have p20 : 0 ≤ (x1_1 : Int) := of_decide_eq_true (by first | (with_reducible assumption) | assumption)
                        have q20 : x1_1 < (a0.size : Int) := of_decide_eq_true (by first | (with_reducible assumption) | assumption)
                        have hx20 := bt_at a0 x1_1
                        replace p20 := eq_true p20
                        replace q20 := eq_true q20
                        go_wp2
                        repeat (go_quiet (fail); try go_wp2)
                        go_ret2
                        exact ⟨by first | rfl | (simp; done) | (simp [*]; done), by repeat (first | exact Drawn0.refl _ | apply Drawn0.step)⟩
                      · rw [if_neg c24] at H
                        exact absurd H (by simp)
                    · rw [if_neg c23] at H
                      exact absurd H (by simp)
                  · rw [if_neg c22] at H
                    exact absurd H (by simp)
                · rw [if_neg c21] at H
                  have c21b0 : ((bt a0 x1_1) == 125) = false := beq_eq_false_iff_ne.mpr c21
                  have c21b1 : ((bt a0 x1_1) != 125) = true := bne_iff_ne.mpr c21
                  have H' := Aside0.mk H
                  clear H
                  have p5 : 0 ≤ (x1_1 : Int) := of_decide_eq_true (by first | (with_reducible assumption) | assumption)
                  have q5 : x1_1 < (a0.size : Int) := of_decide_eq_true (by first | (with_reducible assumption) | assumption)
                  have hx5 := bt_at a0 x1_1
                  replace p5 := eq_true p5
                  replace q5 := eq_true q5
                  have p10 : 0 ≤ (x1_1 : Int) := of_decide_eq_true (by first | (with_reducible assumption) | assumption)
                  have q10 : x1_1 < (a0.size : Int) := of_decide_eq_true (by first | (with_reducible assumption) | assumption)
                  have hx10 := bt_at a0 x1_1
                  replace p10 := eq_true p10
                  replace q10 := eq_true q10
                  have p15 : 0 ≤ (x1_1 : Int) := of_decide_eq_true (by first | (with_reducible assumption) | assumption)
                  have q15 : x1_1 < (a0.size : Int) := of_decide_eq_true (by first | (with_reducible assumption) | assumption)
                  have hx15 := bt_at a0 x1_1
                  replace p15 := eq_true p15
                  replace q15 := eq_true q15
                  have p20 : 0 ≤ (x1_1 : Int) := of_decide_eq_true (by first | (with_reducible assumption) | assumption)
                  have q20 : x1_1 < (a0.size : Int) := of_decide_eq_true (by first | (with_reducible assumption) | assumption)
                  have hx20 := bt_at a0 x1_1
                  replace p20 := eq_true p20
                  replace q20 := eq_true q20
                  go_wp2
                  repeat (go_quiet (fail); try go_wp2)
                  go_roundg k1
                  case measure => have := HK1.out; omega
                  case rel => exact ⟨(wrap64 (x1_1 + 1)), (by first | rfl | (simp; done) | (simp [*]; done)), H', ⟨by have := HK1.out; omega⟩, by repeat (first | exact Drawn0.refl _ | apply Drawn0.step)⟩
        · rw [if_neg c4] at H
          exact absurd H (by simp)
      · rw [if_neg c3] at H
        have c3b0 : decide (x1_1 < (a0.size : Int)) = false := decide_eq_false c3
        clear c3
        by_cases c25 : 0 ≤ a1
        · rw [if_pos c25] at H
          have c25b0 := eq_true c25
          have c25b1 : decide (0 ≤ a1) = true := decide_eq_true c25
          clear c25
          by_cases c26 : a1 ≤ (a0.size : Int)
          · rw [if_pos c26] at H
            have c26b0 := eq_true c26
            have c26b1 : decide (a1 ≤ (a0.size : Int)) = true := decide_eq_true c26
            clear c26
            simp only [Option.some.injEq, Prod.mk.injEq] at H
            obtain ⟨rfl, rfl⟩ := H
            go_wp2
            repeat (go_quiet (fail); try go_wp2)
            go_ret2
            exact ⟨by first | rfl | (simp; done) | (simp [*]; done), by repeat (first | exact Drawn0.refl _ | apply Drawn0.step)⟩
          · rw [if_neg c26] at H
            exact absurd H (by simp)
        · rw [if_neg c25] at H
          exact absurd H (by simp)
def gjson_DoorNumber.f (k : Nat) (a0 : ByteArray) (a1 : Int) : Option (Int × ByteArray) := (gjson_parseNumber.f k a0 a1).bind fun bt296 => (some (bt296.1, bt296.2))
set_option maxHeartbeats 8000000 in
set_option maxRecDepth 100000 in
theorem gjson_DoorNumber.calls (k : Nat) (a0 : ByteArray) (a1 : Int) (r1 : Int) (r2 : ByteArray) (w : World) (h : gjson_DoorNumber.f k a0 a1 = some (r1, r2)) :
    Calls Try.prog 25 #[.string a0, .int .i64 a1] w fun e w' => e = .returned (.tuple #[.int .i64 r1, .string r2]) ∧ Drawn0 w w' := by
  have H : ((gjson_parseNumber.f k a0 a1).bind fun bt296 => (some (bt296.1, bt296.2))) = some (r1, r2) := h
  clear h
  replace H := Option.bind_eq_some_iff.mp H
  obtain ⟨⟨t296, t297⟩, A30, H⟩ := H
  replace H : (some (t296, t297)) = some (r1, r2) := H
  have A3 := Aside0.mk A30
  clear A30
  simp only [Option.some.injEq, Prod.mk.injEq] at H
  obtain ⟨rfl, rfl⟩ := H
  go_enter Try.func25, Try.ntmps25
  go_wp2_with (first | ((with_reducible refine gate_callee (f := 40) rfl ?_); refine goesL_ (some 8) rfl rfl Try.func40 (by kernel_rfl) rfl #[.string a0, .int .i64 a1] rfl (by (try simp only [List.map_toArray, List.map_cons, List.map_nil]); first | done | rfl | (simp only [List.length_drop, List.length_take]; rfl)) ?_; (with_reducible refine (gjson_parseNumber.calls k a0 a1 t296 t297 _ A3.out).mono ?_); rintro e w' ⟨rfl, ⟨nd, rfl⟩⟩; refine ⟨_, rfl, ?_⟩))
  go_ret2
  exact ⟨by first | rfl | (simp; done) | (simp [*]; done), by repeat (first | exact Drawn0.refl _ | apply Drawn0.step)⟩
def impl_GjNumberAt.f (k : Nat) (a0 : ByteArray) (a1 : Int) : Option (Int × ByteArray) := (gjson_DoorNumber.f k a0 a1).bind fun bt298 => (some (bt298.1, bt298.2))
set_option maxHeartbeats 8000000 in
set_option maxRecDepth 100000 in
theorem impl_GjNumberAt.calls (k : Nat) (a0 : ByteArray) (a1 : Int) (r1 : Int) (r2 : ByteArray) (w : World) (h : impl_GjNumberAt.f k a0 a1 = some (r1, r2)) :
    Calls Try.prog 11 #[.string a0, .int .i64 a1] w fun e w' => e = .returned (.tuple #[.int .i64 r1, .string r2]) ∧ Drawn0 w w' := by
  have H : ((gjson_DoorNumber.f k a0 a1).bind fun bt298 => (some (bt298.1, bt298.2))) = some (r1, r2) := h
  clear h
  replace H := Option.bind_eq_some_iff.mp H
  obtain ⟨⟨t298, t299⟩, A30, H⟩ := H
  replace H : (some (t298, t299)) = some (r1, r2) := H
  have A3 := Aside0.mk A30
  clear A30
  simp only [Option.some.injEq, Prod.mk.injEq] at H
  obtain ⟨rfl, rfl⟩ := H
  go_enter Try.func11, Try.ntmps11
  go_wp2_with (first | ((with_reducible refine gate_callee (f := 25) rfl ?_); refine goesL_ (some 8) rfl rfl Try.func25 (by kernel_rfl) rfl #[.string a0, .int .i64 a1] rfl (by (try simp only [List.map_toArray, List.map_cons, List.map_nil]); first | done | rfl | (simp only [List.length_drop, List.length_take]; rfl)) ?_; (with_reducible refine (gjson_DoorNumber.calls k a0 a1 t298 t299 _ A3.out).mono ?_); rintro e w' ⟨rfl, ⟨nd, rfl⟩⟩; refine ⟨_, rfl, ?_⟩))
  go_ret2
  exact ⟨by first | rfl | (simp; done) | (simp [*]; done), by repeat (first | exact Drawn0.refl _ | apply Drawn0.step)⟩
def gjson_parseLiteral.l0 : Nat → ByteArray → Int → Int → Option (Int × ByteArray)
  | 0, _, _, _ => none
  | k + 1, x0, x1, x6 => if x1 < (x0.size : Int) then (if 0 ≤ x1 then (if (bt x0 x1) < 97 then (if 0 ≤ x6 then (if x6 ≤ x1 then (if x1 ≤ (x0.size : Int) then (some (x1, x0.extract (x6 : Int).toNat (x1 : Int).toNat)) else (none)) else (none)) else (none)) else (if (bt x0 x1) > 122 then (if 0 ≤ x6 then (if x6 ≤ x1 then (if x1 ≤ (x0.size : Int) then (some (x1, x0.extract (x6 : Int).toNat (x1 : Int).toNat)) else (none)) else (none)) else (none)) else (gjson_parseLiteral.l0 k x0 (wrap64 (x1 + 1)) x6))) else (none)) else (if 0 ≤ x6 then (if x6 ≤ (x0.size : Int) then (some (x1, x0.extract (x6 : Int).toNat x0.size)) else (none)) else (none))
def gjson_parseLiteral.f (k : Nat) (a0 : ByteArray) (a1 : Int) : Option (Int × ByteArray) := gjson_parseLiteral.l0 k a0 (wrap64 (a1 + 1)) a1
set_option maxHeartbeats 8000000 in
set_option maxRecDepth 100000 in
theorem gjson_parseLiteral.calls (k : Nat) (a0 : ByteArray) (a1 : Int) (r1 : Int) (r2 : ByteArray) (w : World) (h : gjson_parseLiteral.f k a0 a1 = some (r1, r2)) :
    Calls Try.prog 41 #[.string a0, .int .i64 a1] w fun e w' => e = .returned (.tuple #[.int .i64 r1, .string r2]) ∧ Drawn0 w w' := by
  have H : (gjson_parseLiteral.l0 k a0 (wrap64 (a1 + 1)) a1) = some (r1, r2) := h
  clear h
  have H' := Aside0.mk H
  clear H
  go_enter Try.func41, Try.ntmps41
  go_wp2
  repeat (go_quiet (fail); try go_wp2)
  try simp only [Act.put, List.setIfInBounds_toArray, List.set_cons_succ, List.set_cons_zero]
  go_loopg [1] k (fun kq v1 w' => ∃ (x1_1 : Int), v1 = .int .i64 x1_1 ∧ Aside0 (gjson_parseLiteral.l0 kq a0 x1_1 a1 = some (r1, r2)) ∧ Aside0 (kq ≤ k) ∧ Drawn0 w w')
  case atStart => exact ⟨(wrap64 (a1 + 1)), (by first | rfl | (simp; done) | (simp [*]; done)), H', ⟨Nat.le_refl _⟩, by repeat (first | exact Drawn0.refl _ | apply Drawn0.step)⟩
  case round =>
    clear H'
    try clear p2
    obtain ⟨x1_1, rfl, HA, HK1, ⟨m1, rfl⟩⟩ := hrel
    cases gk with
    | zero => exact absurd HA.out (by simp [gjson_parseLiteral.l0])
    | succ k1 =>
      have H := HA.out
      clear HA
      simp only [gjson_parseLiteral.l0] at H
      by_cases c3 : x1_1 < (a0.size : Int)
      · rw [if_pos c3] at H
        have c3b0 : decide (x1_1 < (a0.size : Int)) = true := decide_eq_true c3
        clear c3
        by_cases c4 : 0 ≤ x1_1
        · rw [if_pos c4] at H
          have c4b0 : decide (0 ≤ x1_1) = true := decide_eq_true c4
          clear c4
          by_cases c6 : (bt a0 x1_1) < 97
          · rw [if_pos c6] at H
            have c6b0 : decide ((bt a0 x1_1) < 97) = true := decide_eq_true c6
            clear c6
            by_cases c7 : 0 ≤ a1
            · rw [if_pos c7] at H
              have c7b0 := eq_true c7
              have c7b1 : decide (0 ≤ a1) = true := decide_eq_true c7
              clear c7
              by_cases c8 : a1 ≤ x1_1
              · rw [if_pos c8] at H
                have c8b0 := eq_true c8
                have c8b1 : decide (a1 ≤ x1_1) = true := decide_eq_true c8
                clear c8
                by_cases c9 : x1_1 ≤ (a0.size : Int)
                · rw [if_pos c9] at H
                  have c9b0 := eq_true c9
                  have c9b1 : decide (x1_1 ≤ (a0.size : Int)) = true := decide_eq_true c9
                  clear c9
                  simp only [Option.some.injEq, Prod.mk.injEq] at H
                  obtain ⟨rfl, rfl⟩ := H
                  have p5 : 0 ≤ (x1_1 : Int) := of_decide_eq_true (by first | (with_reducible assumption) | assumption)
                  have q5 : x1_1 < (a0.size : Int) := of_decide_eq_true (by first | (with_reducible assumption) | assumption)
                  have hx5 := bt_at a0 x1_1
                  replace p5 := eq_true p5
                  replace q5 := eq_true q5
                  go_wp2
                  repeat (go_quiet (fail); try go_wp2)
                  go_ret2
                  exact ⟨by first | rfl | (simp; done) | (simp [*]; done), by repeat (first | exact Drawn0.refl _ | apply Drawn0.step)⟩
                · rw [if_neg c9] at H
                  exact absurd H (by simp)
              · rw [if_neg c8] at H
                exact absurd H (by simp)
            · rw [if_neg c7] at H
              exact absurd H (by simp)
          · rw [if_neg c6] at H
            have c6b0 : decide ((bt a0 x1_1) < 97) = false := decide_eq_false c6
            clear c6
            by_cases c11 : (bt a0 x1_1) > 122
            · rw [if_pos c11] at H
              have c11b0 : decide (122 < (bt a0 x1_1)) = true := decide_eq_true c11
              clear c11
              by_cases c12 : 0 ≤ a1
              · rw [if_pos c12] at H
                have c12b0 := eq_true c12
                have c12b1 : decide (0 ≤ a1) = true := decide_eq_true c12
                clear c12
                by_cases c13 : a1 ≤ x1_1
                · rw [if_pos c13] at H
                  have c13b0 := eq_true c13
                  have c13b1 : decide (a1 ≤ x1_1) = true := decide_eq_true c13
                  clear c13
                  by_cases c14 : x1_1 ≤ (a0.size : Int)
                  · rw [if_pos c14] at H
                    have c14b0 := eq_true c14
                    have c14b1 : decide (x1_1 ≤ (a0.size : Int)) = true := decide_eq_true c14
                    clear c14
                    simp only [Option.some.injEq, Prod.mk.injEq] at H
                    obtain ⟨rfl, rfl⟩ := H
                    have p5 : 0 ≤ (x1_1 : Int) := of_decide_eq_true (by first | (with_reducible assumption) | assumption)
                    have q5 : x1_1 < (a0.size : Int) := of_decide_eq_true (by first | (with_reducible assumption) | assumption)
                    have hx5 := bt_at a0 x1_1
                    replace p5 := eq_true p5
                    replace q5 := eq_true q5
                    have p10 : 0 ≤ (x1_1 : Int) := of_decide_eq_true (by first | (with_reducible assumption) | assumption)
                    have q10 : x1_1 < (a0.size : Int) := of_decide_eq_true (by first | (with_reducible assumption) | assumption)
                    have hx10 := bt_at a0 x1_1
                    replace p10 := eq_true p10
                    replace q10 := eq_true q10
                    go_wp2
                    repeat (go_quiet (fail); try go_wp2)
                    go_ret2
                    exact ⟨by first | rfl | (simp; done) | (simp [*]; done), by repeat (first | exact Drawn0.refl _ | apply Drawn0.step)⟩
                  · rw [if_neg c14] at H
                    exact absurd H (by simp)
                · rw [if_neg c13] at H
                  exact absurd H (by simp)
              · rw [if_neg c12] at H
                exact absurd H (by simp)
            · rw [if_neg c11] at H
              have c11b0 : decide (122 < (bt a0 x1_1)) = false := decide_eq_false c11
              clear c11
              have H' := Aside0.mk H
              clear H
              have p5 : 0 ≤ (x1_1 : Int) := of_decide_eq_true (by first | (with_reducible assumption) | assumption)
              have q5 : x1_1 < (a0.size : Int) := of_decide_eq_true (by first | (with_reducible assumption) | assumption)
              have hx5 := bt_at a0 x1_1
              replace p5 := eq_true p5
              replace q5 := eq_true q5
              have p10 : 0 ≤ (x1_1 : Int) := of_decide_eq_true (by first | (with_reducible assumption) | assumption)
              have q10 : x1_1 < (a0.size : Int) := of_decide_eq_true (by first | (with_reducible assumption) | assumption)
              have hx10 := bt_at a0 x1_1
              replace p10 := eq_true p10
              replace q10 := eq_true q10
              go_wp2
              repeat (go_quiet (fail); try go_wp2)
              go_roundg k1
              case measure => have := HK1.out; omega
              case rel => exact ⟨(wrap64 (x1_1 + 1)), (by first | rfl | (simp; done) | (simp [*]; done)), H', ⟨by have := HK1.out; omega⟩, by repeat (first | exact Drawn0.refl _ | apply Drawn0.step)⟩
        · rw [if_neg c4] at H
          exact absurd H (by simp)
      · rw [if_neg c3] at H
        have c3b0 : decide (x1_1 < (a0.size : Int)) = false := decide_eq_false c3
        clear c3
        by_cases c15 : 0 ≤ a1
        · rw [if_pos c15] at H
          have c15b0 := eq_true c15
          have c15b1 : decide (0 ≤ a1) = true := decide_eq_true c15
          clear c15
          by_cases c16 : a1 ≤ (a0.size : Int)
          · rw [if_pos c16] at H
            have c16b0 := eq_true c16
            have c16b1 : decide (a1 ≤ (a0.size : Int)) = true := decide_eq_true c16
            clear c16
            simp only [Option.some.injEq, Prod.mk.injEq] at H
            obtain ⟨rfl, rfl⟩ := H
            go_wp2
            repeat (go_quiet (fail); try go_wp2)
            go_ret2
            exact ⟨by first | rfl | (simp; done) | (simp [*]; done), by repeat (first | exact Drawn0.refl _ | apply Drawn0.step)⟩
          · rw [if_neg c16] at H
            exact absurd H (by simp)
        · rw [if_neg c15] at H
          exact absurd H (by simp)
def gjson_DoorLiteral.f (k : Nat) (a0 : ByteArray) (a1 : Int) : Option (Int × ByteArray) := (gjson_parseLiteral.f k a0 a1).bind fun bt300 => (some (bt300.1, bt300.2))
set_option maxHeartbeats 8000000 in
set_option maxRecDepth 100000 in
theorem gjson_DoorLiteral.calls (k : Nat) (a0 : ByteArray) (a1 : Int) (r1 : Int) (r2 : ByteArray) (w : World) (h : gjson_DoorLiteral.f k a0 a1 = some (r1, r2)) :
    Calls Try.prog 26 #[.string a0, .int .i64 a1] w fun e w' => e = .returned (.tuple #[.int .i64 r1, .string r2]) ∧ Drawn0 w w' := by
  have H : ((gjson_parseLiteral.f k a0 a1).bind fun bt300 => (some (bt300.1, bt300.2))) = some (r1, r2) := h
  clear h
  replace H := Option.bind_eq_some_iff.mp H
  obtain ⟨⟨t300, t301⟩, A30, H⟩ := H
  replace H : (some (t300, t301)) = some (r1, r2) := H
  have A3 := Aside0.mk A30
  clear A30
  simp only [Option.some.injEq, Prod.mk.injEq] at H
  obtain ⟨rfl, rfl⟩ := H
  go_enter Try.func26, Try.ntmps26
  go_wp2_with (first | ((with_reducible refine gate_callee (f := 41) rfl ?_); refine goesL_ (some 8) rfl rfl Try.func41 (by kernel_rfl) rfl #[.string a0, .int .i64 a1] rfl (by (try simp only [List.map_toArray, List.map_cons, List.map_nil]); first | done | rfl | (simp only [List.length_drop, List.length_take]; rfl)) ?_; (with_reducible refine (gjson_parseLiteral.calls k a0 a1 t300 t301 _ A3.out).mono ?_); rintro e w' ⟨rfl, ⟨nd, rfl⟩⟩; refine ⟨_, rfl, ?_⟩))
  go_ret2
  exact ⟨by first | rfl | (simp; done) | (simp [*]; done), by repeat (first | exact Drawn0.refl _ | apply Drawn0.step)⟩
def impl_GjLiteralAt.f (k : Nat) (a0 : ByteArray) (a1 : Int) : Option (Int × ByteArray) := (gjson_DoorLiteral.f k a0 a1).bind fun bt302 => (some (bt302.1, bt302.2))
set_option maxHeartbeats 8000000 in
set_option maxRecDepth 100000 in
theorem impl_GjLiteralAt.calls (k : Nat) (a0 : ByteArray) (a1 : Int) (r1 : Int) (r2 : ByteArray) (w : World) (h : impl_GjLiteralAt.f k a0 a1 = some (r1, r2)) :
    Calls Try.prog 12 #[.string a0, .int .i64 a1] w fun e w' => e = .returned (.tuple #[.int .i64 r1, .string r2]) ∧ Drawn0 w w' := by
  have H : ((gjson_DoorLiteral.f k a0 a1).bind fun bt302 => (some (bt302.1, bt302.2))) = some (r1, r2) := h
  clear h
  replace H := Option.bind_eq_some_iff.mp H
  obtain ⟨⟨t302, t303⟩, A30, H⟩ := H
  replace H : (some (t302, t303)) = some (r1, r2) := H
  have A3 := Aside0.mk A30
  clear A30
  simp only [Option.some.injEq, Prod.mk.injEq] at H
  obtain ⟨rfl, rfl⟩ := H
  go_enter Try.func12, Try.ntmps12
  go_wp2_with (first | ((with_reducible refine gate_callee (f := 26) rfl ?_); refine goesL_ (some 8) rfl rfl Try.func26 (by kernel_rfl) rfl #[.string a0, .int .i64 a1] rfl (by (try simp only [List.map_toArray, List.map_cons, List.map_nil]); first | done | rfl | (simp only [List.length_drop, List.length_take]; rfl)) ?_; (with_reducible refine (gjson_DoorLiteral.calls k a0 a1 t302 t303 _ A3.out).mono ?_); rintro e w' ⟨rfl, ⟨nd, rfl⟩⟩; refine ⟨_, rfl, ?_⟩))
  go_ret2
  exact ⟨by first | rfl | (simp; done) | (simp [*]; done), by repeat (first | exact Drawn0.refl _ | apply Drawn0.step)⟩
end Go.Proofs.Ytnmbpleneddkhaa.PFnGjTokensAt