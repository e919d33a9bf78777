/- what the Go functions that the law FnJpWildStop reaches compute, each as a plain function, with the proof that the Go code computes just that; no condition beside those that each theorem states. -/
import Derived.Test.YtpdohioobbfncaaGreatDoorPFnJpWildStopx0
import Derived.Test.YtpdohioobbfncaaGreatDoorPFnJpWildStopx1
import Derived.Test.YtpdohioobbfncaaGreatDoorPFnJpWildStopx3
import Derived.Test.YtpdohioobbfncaaGreatDoorPFnJpWildStopx5
namespace Go.Proofs.YtpdohioobbfncaaGreatDoor.PFnJpWildStop
open Go.RowKit Go.Proofs.YtpdohioobbfncaaGreatDoorW.PrintWords Go.Proofs.YtpdohioobbfncaaGreatDoorW.PrintLast Go.Proofs.YtpdohioobbfncaaGreatDoorW.PrintMore
set_option linter.unusedVariables false
set_option linter.unusedSimpArgs false
def PP_.f (k : Nat) (a0 : ByteArray) : Option (Int × Int × Int × (List (S64)) × (List (S27)) × Bool) := (b_.f k a0 0).bind fun bt268 => ((v_.f k bt268.1 bt268.2).bind fun bt270 => (if bt270.2.2.2.2.2.1 = true then ((b_.f k bt270.2.2.2.2.2.2.1 bt270.2.2.2.2.2.2.2).bind fun bt283 => (if bt283.2 = (a0.size : Int) then (some (bt270.1, bt270.2.1, bt270.2.2.1, bt270.2.2.2.1, bt270.2.2.2.2.1, true)) else (some (0, 0, 0, ([] : List (S64)), ([] : List (S27)), false)))) else (some (0, 0, 0, ([] : List (S64)), ([] : List (S27)), false))))
set_option maxHeartbeats 8000000 in
set_option maxRecDepth 100000 in
theorem PP_.calls (k : Nat) (a0 : ByteArray) (r1 : Int) (r2 : Int) (r3 : Int) (r4 : List (S64)) (r5 : List (S27)) (r6 : Bool) (w : World) (h : PP_.f k a0 = some (r1, r2, r3, r4, r5, r6)) :
    Calls Tryz.prog 27 #[.string a0] w fun e w' => ∃ v3_ v4_ : Value, e = .returned (.tuple #[.agg #[.int .i64 r1, .int .i64 r2, .int .i64 r3, v3_, v4_], .bool r6]) ∧ Kd.R k64 64 w' w.heap.size (fun _ => True) v3_ r4 ∧ Kd.R k27 27 w' w.heap.size (fun k_ => some k_ ≠ (v3_ : Value).ownBlock) v4_ r5 ∧ Below w.heap.size w w' := by
 have hu27 := Tryz.underlying27
 have hu79 := Tryz.underlying79
 have HB := Aside0.mk (Below.refl w.heap.size w)
 have H : ((b_.f k a0 0).bind fun bt268 => ((v_.f k bt268.1 bt268.2).bind fun bt270 => (if bt270.2.2.2.2.2.1 = true then ((b_.f k bt270.2.2.2.2.2.2.1 bt270.2.2.2.2.2.2.2).bind fun bt283 => (if bt283.2 = (a0.size : Int) then (some (bt270.1, bt270.2.1, bt270.2.2.1, bt270.2.2.2.1, bt270.2.2.2.2.1, true)) else (some (0, 0, 0, ([] : List (S64)), ([] : List (S27)), false)))) else (some (0, 0, 0, ([] : List (S64)), ([] : List (S27)), false))))) = some (r1, r2, r3, r4, r5, r6) := h
 clear h
 replace H := Option.bind_eq_some_iff.mp H
 obtain ⟨⟨t268, t269⟩, A20, H⟩ := H
 try dsimp only at H
 have A2 := Aside0.mk A20
 clear A20
 replace H := Option.bind_eq_some_iff.mp H
 obtain ⟨⟨t270, t271, t272, t273, t276, t279, t280, t281⟩, A30, H⟩ := H
 try dsimp only at H
 have A3 := Aside0.mk A30
 clear A30
 by_cases c4 : t279 = true
 ·
  subst c4
  rw [if_pos rfl] at H
  replace H := Option.bind_eq_some_iff.mp H
  obtain ⟨⟨t283, t284⟩, A50, H⟩ := H
  try dsimp only at H
  have A5 := Aside0.mk A50
  clear A50
  by_cases c6 : t284 = (a0.size : Int)
  ·
   rw [if_pos c6] at H
   have c6b0 := beq_iff_eq.mpr c6
   have c6b1 := bne_eq_false_iff_eq.mpr c6
   clear c6
   simp only [Option.some.injEq, Prod.mk.injEq] at H
   obtain ⟨rfl, rfl, rfl, rfl, rfl, rfl⟩ := H
   go_enter Tryz.func27, Tryz.ntmps27
   go_wp2_with (first | ((with_reducible refine gate_dst (N := 2) rfl ?_); refine zbo (N := 2) (cs := #[.int .i64 0, .int .i64 0, .int .i64 0, .slice none 0 0, .slice none 0 0]) (t := 27) ?_; intro gb266 hg w7 hbox hb; have BK266 := Aside0.mk (hbox); have GW266 := zgw hg HB; have GE266 := zgw hg HB; replace HB := zbs HB hb; clear hb hbox hg) | ((with_reducible refine gate_dst (N := 4) rfl ?_); refine box_event ?hg (N := 4) ?hd (cs := #[.string (⟨#[]⟩ : ByteArray), .int .i64 0]) (t := 79) ?hr ?_; (case hd => rfl); (case hg => rfl); (case hr => first | (go_simp; done) | (go_simp; rfl)); intro gb267 hg w8 hbox hb; have GW267 := zgw hg HB; have GE267 := zgw hg HB; have NB266_267 := znl hg BK266; have NB267_266 := zng hg BK266; replace BK266 := zbb BK266 hb; have HI267 := Aside0.mk (IsS79.of_blk (⟨#[]⟩ : ByteArray) 0 hbox (by rw [hg]; exact (below_size (zB HB.out)) : w.heap.size ≤ gb267)); replace HB := zbs HB hb; clear hb hbox hg; obtain ⟨HGz9, hgz9⟩ := HI267.out; have hz9 := zc2 HGz9; clear HGz9 hgz9) | ((with_reducible refine gate_callee (f := 39) rfl ?_); refine goesL_ (some 9) rfl rfl Tryz.func39 (by kernel_rfl) rfl #[.pointer (some ⟨gb267, 0, none⟩)] rfl zM ?_; (with_reducible refine (b_.calls k gb267 a0 0 t268 t269 w _ ?side1 ?side2 A2.out).mono ?_); (case side1 => exact zI79 HI267.out); (case side2 => exact zC79 HB.out); rintro e w10 ⟨rfl, hi, hb, hk⟩; refine ⟨_, rfl, ?_⟩; replace BK266 := Aside0.mk (KeepBut.blk hk (g' := gb266) (o := .cells #[.int .i64 0, .int .i64 0, .int .i64 0, .slice none 0 0, .slice none 0 0] 27 (0, 0)) (zbf BK266 NB266_267) NB266_267.out (by simp)); replace HB := Aside0.mk (hb); replace HI267 := Aside0.mk (hi); clear hb hk hi) | ((with_reducible refine gate_callee (f := 40) rfl ?_); refine goesL_ (some 11) rfl rfl Tryz.func40 (by kernel_rfl) rfl #[.pointer (some ⟨gb267, 0, none⟩)] rfl zM ?_; (with_reducible refine (v_.calls k gb267 t268 t269 t270 t271 t272 t273 t276 true t280 t281 w _ ?side1 ?side2 A3.out).mono ?_); (case side1 => exact zI79 HI267.out); (case side2 => exact zC79 HB.out); rintro e w11 ⟨v274, v277, rfl, ho0, ho1, hi, hb, hk⟩; refine ⟨_, rfl, ?_⟩; have HO275 := Aside0.mk (Kd.R_lower ho0 (below_size (zC79 HB.out))); have HO278 := Aside0.mk (Kd.R_lower (Kd.R_newB ho1 (g := gb266) (o := .cells #[.int .i64 0, .int .i64 0, .int .i64 0, .slice none 0 0, .slice none 0 0] 27 (0, 0)) (by (repeat refine zb ?_); exact BK266.out)) (below_size (zC79 HB.out))); replace BK266 := zkb hk BK266 NB266_267; replace HB := Aside0.mk (hb); replace HI267 := Aside0.mk (hi); clear hb hk hi; (try clear ho0); (try clear ho1)) | ((with_reducible refine gate_dst (N := 5) rfl ?_); refine zbo (N := 5) (cs := #[.int .i64 0, .int .i64 0, .int .i64 0, .slice none 0 0, .slice none 0 0]) (t := 27) ?_; intro gb282 hg w12 hbox hb; replace HO275 := zrb HO275 hb; replace HO278 := Aside0.mk (Kd.R_below (Kd.R_elderB (zR HO278.out) gb282 (Nat.le_of_eq hg.symm)) hb); have BK282 := Aside0.mk (hbox); have GW282 := Aside0.mk ((by rw [hg]; exact (below_size (zC79 HB.out)) : w.heap.size ≤ gb282)); have GE282 := Aside0.mk ((by rw [hg]; exact (below_size (zC79 HB.out)) : w.heap.size ≤ gb282)); replace HB := Aside0.mk (below_step (zC79 HB.out) hb); have NB266_282 := znl hg BK266; have NB282_266 := zng hg BK266; replace BK266 := zbb BK266 hb; have NB267_282 := Aside0.mk ((by rw [hg]; exact Nat.ne_of_lt (IsS79.lt (show IsS79 w _ gb267 t280 t281 from zI79 HI267.out)) : gb267 ≠ gb282)); have NB282_267 := Aside0.mk ((by rw [hg]; exact Nat.ne_of_gt (IsS79.lt (show IsS79 w _ gb267 t280 t281 from zI79 HI267.out)) : gb282 ≠ gb267)); replace HI267 := Aside0.mk (IsS79.below (zI79 HI267.out) hb); clear hb hbox hg; have hnb13 := NB282_266.out; have hnc13 := NB266_282.out; have hnb14 := NB282_267.out; have hnc14 := NB267_282.out; have hz15 := zc5 BK282.out; obtain ⟨Ao16, co16, eo16⟩ := Kd.R_slice HO275.out; subst eo16; obtain ⟨Ao17, co17, eo17⟩ := Kd.R_slice HO278.out; subst eo17) | ((with_reducible refine gate_callee (f := 39) rfl ?_); refine goesL_ (some 17) rfl rfl Tryz.func39 (by kernel_rfl) rfl #[.pointer (some ⟨gb267, 0, none⟩)] rfl zM ?_; (with_reducible refine (b_.calls k gb267 t280 t281 t283 t284 w _ ?side1 ?side2 A5.out).mono ?_); (case side1 => exact zI79 HI267.out); (case side2 => exact zC79 HB.out); rintro e w18 ⟨rfl, hi, hb, hk⟩; refine ⟨_, rfl, ?_⟩; replace BK266 := Aside0.mk (KeepBut.blk hk (g' := gb266) (o := .cells #[.int .i64 0, .int .i64 0, .int .i64 0, .slice none 0 0, .slice none 0 0] 27 (0, 0)) (zbf BK266 NB266_282) NB266_267.out (by simp)); replace HO275 := Aside0.mk (Kd.R_mono (Kd.R_keep (IsS79.apart (show IsS79 w _ gb267 t280 t281 from zI79 HI267.out) (zR ((Kd.R_mono (zFR (Kd.R_types HO275.out BK282.out (by decide))) (fun _ h_ => h_.1)))) (by decide)) hk (fun _ h => h.2)) (fun _ h => h.1)); replace HO278 := Aside0.mk (Kd.R_mono (Kd.R_keep (IsS79.apart (show IsS79 w _ gb267 t280 t281 from zI79 HI267.out) (zR ((Kd.R_mono (zFR (Kd.R_mono HO278.out (fun k_ hk => (⟨hk, hk.2⟩ : _ ∧ k_ ≠ gb282)))) (fun _ h_ => h_.1)))) (by decide)) hk (fun _ h => h.2)) (fun _ h => h.1)); replace BK282 := Aside0.mk (KeepBut.blk hk (g' := gb282) (o := .cells #[.int .i64 t270, .int .i64 t271, .int .i64 t272, .slice Ao16 t273.length co16, .slice Ao17 t276.length co17] 27 (0, 0)) (zbp BK282) NB282_267.out (by simp)); replace HB := Aside0.mk (hb); replace HI267 := Aside0.mk (hi); clear hb hk hi; obtain ⟨HGz19, hgz19⟩ := HI267.out; have hz19 := zc2 HGz19; clear HGz19 hgz19; have hz20 := zc5 BK282.out; have hnb21 := NB266_267.out; have hnc21 := NB267_266.out; have hz22 := zc5 BK266.out))
   refine bodyPost_ret (results_ct rfl _ _ gb266 27 #[.int .i64 t270, .int .i64 t271, .int .i64 t272, .slice Ao16 t273.length co16, .slice Ao17 t276.length co17] (0, 0) _ rfl (zbp BK266) Tryz.underlying27 rfl (by kernel_rfl)) rfl ?_
   exact ⟨_, _, zX, by (with_reducible repeat (first | apply Kd.R_alloc | apply Kd.R_drewN | apply Kd.R_drew)); exact Kd.R_mono (zFR (Kd.R_types HO275.out BK266.out (by decide))) (fun _ hk => trivial), by (with_reducible repeat (first | apply Kd.R_alloc | apply Kd.R_drewN | apply Kd.R_drew)); exact Kd.R_mono (zFR (Kd.R_mono HO278.out (fun k_ hk => (⟨hk, hk.1.2⟩ : _ ∧ k_ ≠ gb266)))) (fun _ hk => hk.1.1.1), zC79 HB.out⟩
  rw [if_neg c6] at H
  have c6b0 := beq_eq_false_iff_ne.mpr c6
  have c6b1 := bne_iff_ne.mpr c6
  simp only [Option.some.injEq, Prod.mk.injEq] at H
  obtain ⟨rfl, rfl, rfl, rfl, rfl, rfl⟩ := H
  go_enter Tryz.func27, Tryz.ntmps27
  go_wp2_with (first | ((with_reducible refine gate_dst (N := 2) rfl ?_); refine zbo (N := 2) (cs := #[.int .i64 0, .int .i64 0, .int .i64 0, .slice none 0 0, .slice none 0 0]) (t := 27) ?_; intro gb266 hg w23 hbox hb; have BK266 := Aside0.mk (hbox); have GW266 := zgw hg HB; have GE266 := zgw hg HB; replace HB := zbs HB hb; clear hb hbox hg) | ((with_reducible refine gate_dst (N := 4) rfl ?_); refine box_event ?hg (N := 4) ?hd (cs := #[.string (⟨#[]⟩ : ByteArray), .int .i64 0]) (t := 79) ?hr ?_; (case hd => rfl); (case hg => rfl); (case hr => first | (go_simp; done) | (go_simp; rfl)); intro gb267 hg w24 hbox hb; have GW267 := zgw hg HB; have GE267 := zgw hg HB; have NB266_267 := znl hg BK266; have NB267_266 := zng hg BK266; replace BK266 := zbb BK266 hb; have HI267 := Aside0.mk (IsS79.of_blk (⟨#[]⟩ : ByteArray) 0 hbox (by rw [hg]; exact (below_size (zB HB.out)) : w.heap.size ≤ gb267)); replace HB := zbs HB hb; clear hb hbox hg; obtain ⟨HGz25, hgz25⟩ := HI267.out; have hz25 := zc2 HGz25; clear HGz25 hgz25) | ((with_reducible refine gate_callee (f := 39) rfl ?_); refine goesL_ (some 9) rfl rfl Tryz.func39 (by kernel_rfl) rfl #[.pointer (some ⟨gb267, 0, none⟩)] rfl zM ?_; (with_reducible refine (b_.calls k gb267 a0 0 t268 t269 w _ ?side1 ?side2 A2.out).mono ?_); (case side1 => exact zI79 HI267.out); (case side2 => exact zC79 HB.out); rintro e w26 ⟨rfl, hi, hb, hk⟩; refine ⟨_, rfl, ?_⟩; replace BK266 := Aside0.mk (KeepBut.blk hk (g' := gb266) (o := .cells #[.int .i64 0, .int .i64 0, .int .i64 0, .slice none 0 0, .slice none 0 0] 27 (0, 0)) (zbf BK266 NB266_267) NB266_267.out (by simp)); replace HB := Aside0.mk (hb); replace HI267 := Aside0.mk (hi); clear hb hk hi) | ((with_reducible refine gate_callee (f := 40) rfl ?_); refine goesL_ (some 11) rfl rfl Tryz.func40 (by kernel_rfl) rfl #[.pointer (some ⟨gb267, 0, none⟩)] rfl zM ?_; (with_reducible refine (v_.calls k gb267 t268 t269 t270 t271 t272 t273 t276 true t280 t281 w _ ?side1 ?side2 A3.out).mono ?_); (case side1 => exact zI79 HI267.out); (case side2 => exact zC79 HB.out); rintro e w27 ⟨v274, v277, rfl, ho0, ho1, hi, hb, hk⟩; refine ⟨_, rfl, ?_⟩; have HO275 := Aside0.mk (Kd.R_lower ho0 (below_size (zC79 HB.out))); have HO278 := Aside0.mk (Kd.R_lower (Kd.R_newB ho1 (g := gb266) (o := .cells #[.int .i64 0, .int .i64 0, .int .i64 0, .slice none 0 0, .slice none 0 0] 27 (0, 0)) (by (repeat refine zb ?_); exact BK266.out)) (below_size (zC79 HB.out))); replace BK266 := zkb hk BK266 NB266_267; replace HB := Aside0.mk (hb); replace HI267 := Aside0.mk (hi); clear hb hk hi; (try clear ho0); (try clear ho1)) | ((with_reducible refine gate_dst (N := 5) rfl ?_); refine zbo (N := 5) (cs := #[.int .i64 0, .int .i64 0, .int .i64 0, .slice none 0 0, .slice none 0 0]) (t := 27) ?_; intro gb282 hg w28 hbox hb; replace HO275 := zrb HO275 hb; replace HO278 := Aside0.mk (Kd.R_below (Kd.R_elderB (zR HO278.out) gb282 (Nat.le_of_eq hg.symm)) hb); have BK282 := Aside0.mk (hbox); have GW282 := Aside0.mk ((by rw [hg]; exact (below_size (zC79 HB.out)) : w.heap.size ≤ gb282)); have GE282 := Aside0.mk ((by rw [hg]; exact (below_size (zC79 HB.out)) : w.heap.size ≤ gb282)); replace HB := Aside0.mk (below_step (zC79 HB.out) hb); have NB266_282 := znl hg BK266; have NB282_266 := zng hg BK266; replace BK266 := zbb BK266 hb; have NB267_282 := Aside0.mk ((by rw [hg]; exact Nat.ne_of_lt (IsS79.lt (show IsS79 w _ gb267 t280 t281 from zI79 HI267.out)) : gb267 ≠ gb282)); have NB282_267 := Aside0.mk ((by rw [hg]; exact Nat.ne_of_gt (IsS79.lt (show IsS79 w _ gb267 t280 t281 from zI79 HI267.out)) : gb282 ≠ gb267)); replace HI267 := Aside0.mk (IsS79.below (zI79 HI267.out) hb); clear hb hbox hg; have hnb29 := NB282_266.out; have hnc29 := NB266_282.out; have hnb30 := NB282_267.out; have hnc30 := NB267_282.out; have hz31 := zc5 BK282.out; obtain ⟨Ao32, co32, eo32⟩ := Kd.R_slice HO275.out; subst eo32; obtain ⟨Ao33, co33, eo33⟩ := Kd.R_slice HO278.out; subst eo33) | ((with_reducible refine gate_callee (f := 39) rfl ?_); refine goesL_ (some 17) rfl rfl Tryz.func39 (by kernel_rfl) rfl #[.pointer (some ⟨gb267, 0, none⟩)] rfl zM ?_; (with_reducible refine (b_.calls k gb267 t280 t281 t283 t284 w _ ?side1 ?side2 A5.out).mono ?_); (case side1 => exact zI79 HI267.out); (case side2 => exact zC79 HB.out); rintro e w34 ⟨rfl, hi, hb, hk⟩; refine ⟨_, rfl, ?_⟩; replace BK266 := Aside0.mk (KeepBut.blk hk (g' := gb266) (o := .cells #[.int .i64 0, .int .i64 0, .int .i64 0, .slice none 0 0, .slice none 0 0] 27 (0, 0)) (zbf BK266 NB266_282) NB266_267.out (by simp)); replace HO275 := Aside0.mk (Kd.R_mono (Kd.R_keep (IsS79.apart (show IsS79 w _ gb267 t280 t281 from zI79 HI267.out) (zR ((Kd.R_mono (zFR (Kd.R_types HO275.out BK282.out (by decide))) (fun _ h_ => h_.1)))) (by decide)) hk (fun _ h => h.2)) (fun _ h => h.1)); replace HO278 := Aside0.mk (Kd.R_mono (Kd.R_keep (IsS79.apart (show IsS79 w _ gb267 t280 t281 from zI79 HI267.out) (zR ((Kd.R_mono (zFR (Kd.R_mono HO278.out (fun k_ hk => (⟨hk, hk.2⟩ : _ ∧ k_ ≠ gb282)))) (fun _ h_ => h_.1)))) (by decide)) hk (fun _ h => h.2)) (fun _ h => h.1)); replace BK282 := Aside0.mk (KeepBut.blk hk (g' := gb282) (o := .cells #[.int .i64 t270, .int .i64 t271, .int .i64 t272, .slice Ao32 t273.length co32, .slice Ao33 t276.length co33] 27 (0, 0)) (zbp BK282) NB282_267.out (by simp)); replace HB := Aside0.mk (hb); replace HI267 := Aside0.mk (hi); clear hb hk hi; obtain ⟨HGz35, hgz35⟩ := HI267.out; have hz35 := zc2 HGz35; clear HGz35 hgz35; have hnb36 := NB266_267.out; have hnc36 := NB267_266.out; have hz37 := zc5 BK266.out))
  refine bodyPost_ret (results_ct rfl _ _ gb266 27 #[.int .i64 0, .int .i64 0, .int .i64 0, .slice none 0 0, .slice none 0 0] (0, 0) _ rfl (zbp BK266) Tryz.underlying27 rfl (by kernel_rfl)) rfl ?_
  exact ⟨_, _, zX, zN, zN, zC79 HB.out⟩
 replace c4 := Bool.eq_false_iff.mpr c4
 subst c4
 rw [if_neg Bool.false_ne_true] at H
 simp only [Option.some.injEq, Prod.mk.injEq] at H
 obtain ⟨rfl, rfl, rfl, rfl, rfl, rfl⟩ := H
 go_enter Tryz.func27, Tryz.ntmps27
 go_wp2_with (first | ((with_reducible refine gate_dst (N := 2) rfl ?_); refine zbo (N := 2) (cs := #[.int .i64 0, .int .i64 0, .int .i64 0, .slice none 0 0, .slice none 0 0]) (t := 27) ?_; intro gb266 hg w38 hbox hb; have BK266 := Aside0.mk (hbox); have GW266 := zgw hg HB; have GE266 := zgw hg HB; replace HB := zbs HB hb; clear hb hbox hg) | ((with_reducible refine gate_dst (N := 4) rfl ?_); refine box_event ?hg (N := 4) ?hd (cs := #[.string (⟨#[]⟩ : ByteArray), .int .i64 0]) (t := 79) ?hr ?_; (case hd => rfl); (case hg => rfl); (case hr => first | (go_simp; done) | (go_simp; rfl)); intro gb267 hg w39 hbox hb; have GW267 := zgw hg HB; have GE267 := zgw hg HB; have NB266_267 := znl hg BK266; have NB267_266 := zng hg BK266; replace BK266 := zbb BK266 hb; have HI267 := Aside0.mk (IsS79.of_blk (⟨#[]⟩ : ByteArray) 0 hbox (by rw [hg]; exact (below_size (zB HB.out)) : w.heap.size ≤ gb267)); replace HB := zbs HB hb; clear hb hbox hg; obtain ⟨HGz40, hgz40⟩ := HI267.out; have hz40 := zc2 HGz40; clear HGz40 hgz40) | ((with_reducible refine gate_callee (f := 39) rfl ?_); refine goesL_ (some 9) rfl rfl Tryz.func39 (by kernel_rfl) rfl #[.pointer (some ⟨gb267, 0, none⟩)] rfl zM ?_; (with_reducible refine (b_.calls k gb267 a0 0 t268 t269 w _ ?side1 ?side2 A2.out).mono ?_); (case side1 => exact zI79 HI267.out); (case side2 => exact zC79 HB.out); rintro e w41 ⟨rfl, hi, hb, hk⟩; refine ⟨_, rfl, ?_⟩; replace BK266 := Aside0.mk (KeepBut.blk hk (g' := gb266) (o := .cells #[.int .i64 0, .int .i64 0, .int .i64 0, .slice none 0 0, .slice none 0 0] 27 (0, 0)) (zbf BK266 NB266_267) NB266_267.out (by simp)); replace HB := Aside0.mk (hb); replace HI267 := Aside0.mk (hi); clear hb hk hi) | ((with_reducible refine gate_callee (f := 40) rfl ?_); refine goesL_ (some 11) rfl rfl Tryz.func40 (by kernel_rfl) rfl #[.pointer (some ⟨gb267, 0, none⟩)] rfl zM ?_; (with_reducible refine (v_.calls k gb267 t268 t269 t270 t271 t272 t273 t276 false t280 t281 w _ ?side1 ?side2 A3.out).mono ?_); (case side1 => exact zI79 HI267.out); (case side2 => exact zC79 HB.out); rintro e w42 ⟨v274, v277, rfl, ho0, ho1, hi, hb, hk⟩; refine ⟨_, rfl, ?_⟩; have HO275 := Aside0.mk (Kd.R_lower ho0 (below_size (zC79 HB.out))); have HO278 := Aside0.mk (Kd.R_lower (Kd.R_newB ho1 (g := gb266) (o := .cells #[.int .i64 0, .int .i64 0, .int .i64 0, .slice none 0 0, .slice none 0 0] 27 (0, 0)) (by (repeat refine zb ?_); exact BK266.out)) (below_size (zC79 HB.out))); replace BK266 := zkb hk BK266 NB266_267; replace HB := Aside0.mk (hb); replace HI267 := Aside0.mk (hi); clear hb hk hi; (try clear ho0); (try clear ho1)) | ((with_reducible refine gate_dst (N := 5) rfl ?_); refine zbo (N := 5) (cs := #[.int .i64 0, .int .i64 0, .int .i64 0, .slice none 0 0, .slice none 0 0]) (t := 27) ?_; intro gb282 hg w43 hbox hb; replace HO275 := zrb HO275 hb; replace HO278 := Aside0.mk (Kd.R_below (Kd.R_elderB (zR HO278.out) gb282 (Nat.le_of_eq hg.symm)) hb); have BK282 := Aside0.mk (hbox); have GW282 := Aside0.mk ((by rw [hg]; exact (below_size (zC79 HB.out)) : w.heap.size ≤ gb282)); have GE282 := Aside0.mk ((by rw [hg]; exact (below_size (zC79 HB.out)) : w.heap.size ≤ gb282)); replace HB := Aside0.mk (below_step (zC79 HB.out) hb); have NB266_282 := znl hg BK266; have NB282_266 := zng hg BK266; replace BK266 := zbb BK266 hb; have NB267_282 := Aside0.mk ((by rw [hg]; exact Nat.ne_of_lt (IsS79.lt (show IsS79 w _ gb267 t280 t281 from zI79 HI267.out)) : gb267 ≠ gb282)); have NB282_267 := Aside0.mk ((by rw [hg]; exact Nat.ne_of_gt (IsS79.lt (show IsS79 w _ gb267 t280 t281 from zI79 HI267.out)) : gb282 ≠ gb267)); replace HI267 := Aside0.mk (IsS79.below (zI79 HI267.out) hb); clear hb hbox hg; have hnb44 := NB282_266.out; have hnc44 := NB266_282.out; have hnb45 := NB282_267.out; have hnc45 := NB267_282.out; have hz46 := zc5 BK282.out; obtain ⟨Ao47, co47, eo47⟩ := Kd.R_slice HO275.out; subst eo47; obtain ⟨Ao48, co48, eo48⟩ := Kd.R_slice HO278.out; subst eo48; have hnb49 := NB266_267.out; have hnc49 := NB267_266.out; have hz50 := zc5 BK266.out))
 refine bodyPost_ret (results_ct rfl _ _ gb266 27 #[.int .i64 0, .int .i64 0, .int .i64 0, .slice none 0 0, .slice none 0 0] (0, 0) _ rfl (by (repeat refine zb ?_); refine blk_put (cs := #[.int .i64 0, .int .i64 0, .int .i64 0, .slice none 0 0, .slice none 0 0]) ?_ 4 _ rfl; (repeat refine zb ?_); refine blk_put (cs := #[.int .i64 0, .int .i64 0, .int .i64 0, .slice none 0 0, .slice none 0 0]) ?_ 3 _ rfl; (repeat refine zb ?_); refine blk_put (cs := #[.int .i64 0, .int .i64 0, .int .i64 0, .slice none 0 0, .slice none 0 0]) ?_ 2 _ rfl; (repeat refine zb ?_); refine blk_put (cs := #[.int .i64 0, .int .i64 0, .int .i64 0, .slice none 0 0, .slice none 0 0]) ?_ 1 _ rfl; (repeat refine zb ?_); refine blk_put (cs := #[.int .i64 0, .int .i64 0, .int .i64 0, .slice none 0 0, .slice none 0 0]) ?_ 0 _ rfl; (repeat refine zb ?_); refine blk_far ?_ NB266_282.out _; (repeat refine zb ?_); refine blk_far ?_ NB266_282.out _; (repeat refine zb ?_); refine blk_far ?_ NB266_282.out _; (repeat refine zb ?_); refine blk_far ?_ NB266_282.out _; (repeat refine zb ?_); refine blk_far ?_ NB266_282.out _; (repeat refine zb ?_); exact BK266.out) Tryz.underlying27 rfl (by kernel_rfl)) rfl ?_
 exact ⟨_, _, zX, zN, zN, zC79 HB.out⟩
def jP_.f (k : Nat) (a0 : ByteArray) : Option (Int × Int × Int × (List (S64)) × (List (S27)) × Bool) := if (a0.size : Int) > 65536 then (some (0, 0, 0, ([] : List (S64)), ([] : List (S27)), false)) else ((PP_.f k a0).bind fun bt286 => (some (bt286.1, bt286.2.1, bt286.2.2.1, bt286.2.2.2.1, bt286.2.2.2.2.1, bt286.2.2.2.2.2)))
set_option maxHeartbeats 8000000 in
set_option maxRecDepth 100000 in
theorem jP_.calls (k : Nat) (a0 : ByteArray) (r1 : Int) (r2 : Int) (r3 : Int) (r4 : List (S64)) (r5 : List (S27)) (r6 : Bool) (w : World) (h : jP_.f k a0 = some (r1, r2, r3, r4, r5, r6)) :
    Calls Tryz.prog 14 #[.string a0] w fun e w' => ∃ v3_ v4_ : Value, e = .returned (.tuple #[.agg #[.int .i64 r1, .int .i64 r2, .int .i64 r3, v3_, v4_], .bool r6]) ∧ Kd.R k64 64 w' w.heap.size (fun _ => True) v3_ r4 ∧ Kd.R k27 27 w' w.heap.size (fun k_ => some k_ ≠ (v3_ : Value).ownBlock) v4_ r5 ∧ Below w.heap.size w w' := by
 have hu27 := Tryz.underlying27
 have HB := Aside0.mk (Below.refl w.heap.size w)
 have H : (if (a0.size : Int) > 65536 then (some (0, 0, 0, ([] : List (S64)), ([] : List (S27)), false)) else ((PP_.f k a0).bind fun bt286 => (some (bt286.1, bt286.2.1, bt286.2.2.1, bt286.2.2.2.1, bt286.2.2.2.2.1, bt286.2.2.2.2.2)))) = some (r1, r2, r3, r4, r5, r6) := h
 clear h
 by_cases c2 : (a0.size : Int) > 65536
 ·
  rw [if_pos c2] at H
  have c2b0 := decide_eq_true c2
  have c2b1 : decide (65536 < a0.size) = true := decide_eq_true (by omega)
  clear c2
  simp only [Option.some.injEq, Prod.mk.injEq] at H
  obtain ⟨rfl, rfl, rfl, rfl, rfl, rfl⟩ := H
  go_enter Tryz.func14, Tryz.ntmps14
  go_wp2_with (first | ((with_reducible refine gate_dst (N := 2) rfl ?_); refine zbo (N := 2) (cs := #[.int .i64 0, .int .i64 0, .int .i64 0, .slice none 0 0, .slice none 0 0]) (t := 27) ?_; intro gb285 hg w3 hbox hb; have BK285 := Aside0.mk (hbox); have GW285 := zgw hg HB; have GE285 := zgw hg HB; replace HB := zbs HB hb; clear hb hbox hg; have hz4 := zc5 BK285.out))
  refine bodyPost_ret (results_ct rfl _ _ gb285 27 #[.int .i64 0, .int .i64 0, .int .i64 0, .slice none 0 0, .slice none 0 0] (0, 0) _ rfl (zbp BK285) Tryz.underlying27 rfl (by kernel_rfl)) rfl ?_
  exact ⟨_, _, zX, zN, zN, zB HB.out⟩
 rw [if_neg c2] at H
 have c2b0 := decide_eq_false c2
 have c2b1 : decide (65536 < a0.size) = false := decide_eq_false (by omega)
 clear c2
 replace H := Option.bind_eq_some_iff.mp H
 obtain ⟨⟨t286, t287, t288, t289, t292, t295⟩, A50, H⟩ := H
 try dsimp only at H
 have A5 := Aside0.mk A50
 clear A50
 simp only [Option.some.injEq, Prod.mk.injEq] at H
 obtain ⟨rfl, rfl, rfl, rfl, rfl, rfl⟩ := H
 go_enter Tryz.func14, Tryz.ntmps14
 go_wp2_with (first | ((with_reducible refine gate_dst (N := 2) rfl ?_); refine zbo (N := 2) (cs := #[.int .i64 0, .int .i64 0, .int .i64 0, .slice none 0 0, .slice none 0 0]) (t := 27) ?_; intro gb285 hg w6 hbox hb; have BK285 := Aside0.mk (hbox); have GW285 := zgw hg HB; have GE285 := zgw hg HB; replace HB := zbs HB hb; clear hb hbox hg) | ((with_reducible refine gate_callee (f := 27) rfl ?_); refine goesL_ (some 9) rfl rfl Tryz.func27 (by kernel_rfl) rfl #[.string a0] rfl zM ?_; (with_reducible refine (PP_.calls k a0 t286 t287 t288 t289 t292 t295 _ A5.out).mono ?_); rintro e w7 ⟨v290, v293, rfl, ho0, ho1, hb⟩; refine ⟨_, rfl, ?_⟩; have HO291 := Aside0.mk (Kd.R_lower ho0 (below_size (zB HB.out))); have HO294 := Aside0.mk (Kd.R_lower (Kd.R_newB ho1 (g := gb285) (o := .cells #[.int .i64 0, .int .i64 0, .int .i64 0, .slice none 0 0, .slice none 0 0] 27 (0, 0)) (by (repeat refine zb ?_); exact BK285.out)) (below_size (zB HB.out))); replace BK285 := zbb BK285 hb; replace HB := zbs HB hb; clear hb; (try clear ho0); (try clear ho1); have hz8 := zc5 BK285.out; obtain ⟨Ao9, co9, eo9⟩ := Kd.R_slice HO291.out; subst eo9; obtain ⟨Ao10, co10, eo10⟩ := Kd.R_slice HO294.out; subst eo10))
 refine bodyPost_ret (results_ct rfl _ _ gb285 27 #[.int .i64 t286, .int .i64 t287, .int .i64 t288, .slice Ao9 t289.length co9, .slice Ao10 t292.length co10] (0, 0) _ rfl (zbp BK285) Tryz.underlying27 rfl (by kernel_rfl)) rfl ?_
 exact ⟨_, _, zX, by (with_reducible repeat (first | apply Kd.R_alloc | apply Kd.R_drewN | apply Kd.R_drew)); exact Kd.R_mono (zFR (Kd.R_types HO291.out BK285.out (by decide))) (fun _ hk => trivial), by (with_reducible repeat (first | apply Kd.R_alloc | apply Kd.R_drewN | apply Kd.R_drew)); exact Kd.R_mono (zFR (Kd.R_mono HO294.out (fun k_ hk => (⟨hk, hk.2⟩ : _ ∧ k_ ≠ gb285)))) (fun _ hk => hk.1.1), zB HB.out⟩
mutual
def u_.j0 : Nat → ByteArray → Int → Bool → Option (Int × Bool)
  | 0, _, _, _ => none
  | k + 1, x0, x1, x27 => if x27 = true then (some (0, false)) else (u_.l0 k x0 x1 0 (wrap64 (x1 + 2)))
def u_.l0 : Nat → ByteArray → Int → Int → Int → Option (Int × Bool)
  | 0, _, _, _, _ => none
  | k + 1, x0, x1, x6, x7 => if x7 < (wrap64 (x1 + 6)) then (if 0 ≤ x7 then (if x7 < (x0.size : Int) then ((hD_.f k (bt x0 x7)).bind fun bt296 => (if bt296.2 = true then (u_.l0 k x0 x1 (wrap64 ((wrap64 (x6 * 16)) + bt296.1)) (wrap64 (x7 + 1))) else (some (0, false)))) else (none)) else (none)) else (some (x6, true))
end
def u_.f (k : Nat) (a0 : ByteArray) (a1 : Int) : Option (Int × Bool) := if (wrap64 ((a0.size : Int) - a1)) < 6 then (u_.j0 k a0 a1 true) else (if 0 ≤ a1 then (if a1 < (a0.size : Int) then (if (bt a0 a1) = 92 then (if 0 ≤ (wrap64 (a1 + 1)) then (if (wrap64 (a1 + 1)) < (a0.size : Int) then (u_.j0 k a0 a1 ((bt a0 (wrap64 (a1 + 1))) != 117)) else (none)) else (none)) else (u_.j0 k a0 a1 true)) else (none)) else (none))
set_option maxHeartbeats 8000000 in
set_option maxRecDepth 100000 in
theorem u_.calls (k : Nat) (a0 : ByteArray) (a1 : Int) (r1 : Int) (r2 : Bool) (w : World) (h : u_.f k a0 a1 = some (r1, r2)) :
    Calls Tryz.prog 41 #[.string a0, .int .i64 a1] w fun e w' => e = .returned (.tuple #[.int .i64 r1, .bool r2]) ∧ Drawn0 w w' := by
 have H : (if (wrap64 ((a0.size : Int) - a1)) < 6 then (u_.j0 k a0 a1 true) else (if 0 ≤ a1 then (if a1 < (a0.size : Int) then (if (bt a0 a1) = 92 then (if 0 ≤ (wrap64 (a1 + 1)) then (if (wrap64 (a1 + 1)) < (a0.size : Int) then (u_.j0 k a0 a1 ((bt a0 (wrap64 (a1 + 1))) != 117)) else (none)) else (none)) else (u_.j0 k a0 a1 true)) else (none)) else (none))) = some (r1, r2) := h
 clear h
 have HC3 := Aside0.mk H
 clear H
 go_enter Tryz.func41, Tryz.ntmps41
 go_upto_region 1 with (fail)
 go_cut [27] (fun v27 wc => ∃ (kq : Nat) (x27_2 : Bool), v27 = .bool x27_2 ∧ Aside0 (u_.j0 kq a0 a1 x27_2 = some (r1, r2)) ∧ Aside0 (kq ≤ k) ∧ Drawn0 w wc)
 case first =>
  have H := HC3.out
  clear HC3
  by_cases c4 : (wrap64 ((a0.size : Int) - a1)) < 6
  ·
   rw [if_pos c4] at H
   have c4b0 := decide_eq_true c4
   clear c4
   (first | rw [c4b0] | (simp only [i64_w, i32_w]; rw [c4b0]) | rw [c4b1] | skip)
   have H' := Aside0.mk H
   clear H
   go_wp2
   go_meet
   case rel => exact ⟨_, (true), zE, H', ⟨by first | omega | exact Nat.le_refl _⟩, zD⟩
  rw [if_neg c4] at H
  have c4b0 := decide_eq_false c4
  clear c4
  (first | rw [c4b0] | (simp only [i64_w, i32_w]; rw [c4b0]) | rw [c4b1] | skip)
  by_cases c5 : 0 ≤ a1
  ·
   rw [if_pos c5] at H
   have c5b0 := decide_eq_true c5
   clear c5
   by_cases c6 : a1 < (a0.size : Int)
   ·
    rw [if_pos c6] at H
    have c6b0 := decide_eq_true c6
    clear c6
    by_cases c8 : (bt a0 a1) = 92
    ·
     rw [if_pos c8] at H
     have c8b0 := beq_iff_eq.mpr c8
     have c8b1 := bne_eq_false_iff_eq.mpr c8
     clear c8
     obtain ⟨ji9, hji9⟩ : ∃ j_ : Int, (wrap64 (a1 + 1)) = j_ := ⟨_, rfl⟩
     replace H : (if 0 ≤ (ji9) then (if (ji9) < (a0.size : Int) then (u_.j0 k a0 a1 ((bt a0 (ji9)) != 117)) else (none)) else (none)) = some (r1, r2) := by first | (rw [hji9] at H; exact H) | (simp only [hji9] at H ⊢; exact H)
     have hji9w : (IntKind.i64.wrap (a1 + 1)) = ji9 := (i64_w _).trans hji9
     by_cases c10 : 0 ≤ (ji9)
     ·
      rw [if_pos c10] at H
      have c10b0 := decide_eq_true c10
      clear c10
      by_cases c11 : (ji9) < (a0.size : Int)
      ·
       rw [if_pos c11] at H
       have c11b0 := decide_eq_true c11
       clear c11
       have H' := Aside0.mk H
       clear H
       have p7 : 0 ≤ (a1 : Int) := dT
       have q7 : a1 < (a0.size : Int) := dT
       have hx7 := bt_at a0 a1
       replace p7 := eq_true p7
       replace q7 := eq_true q7
       have p12 : 0 ≤ ((ji9) : Int) := dT
       have q12 : (ji9) < (a0.size : Int) := dT
       have hx12 := bt_at a0 (ji9)
       replace p12 := eq_true p12
       replace q12 := eq_true q12
       go_wp2
       first | (go_meet; case rel => exact ⟨_, (((bt a0 (ji9)) != 117)), (by first | rfl | (simp; done) | (simp only [← hji9] <;> (first | rfl | simp); done) | (simp [nil_ne_, nil_eq_]; done) | (simp [*]; done)), (by first | exact H' | (rw [hji9]; exact H') | (simp only [hji9]; exact H') | (simp only [hji9] at H' ⊢; exact H')), ⟨by first | omega | exact Nat.le_refl _⟩, zD⟩) | ((try subst hji9); go_meet; case rel => exact ⟨_, (((bt a0 ((wrap64 (a1 + 1)))) != 117)), (by first | rfl | (simp; done) | (simp only [← h_none_] <;> (first | rfl | simp); done) | (simp [nil_ne_, nil_eq_]; done) | (simp [*]; done)), H', ⟨by first | omega | exact Nat.le_refl _⟩, zD⟩)
      rw [if_neg c11] at H
      exact absurd H (by simp)
     rw [if_neg c10] at H
     exact absurd H (by simp)
    rw [if_neg c8] at H
    have c8b0 := beq_eq_false_iff_ne.mpr c8
    have c8b1 := bne_iff_ne.mpr c8
    have H' := Aside0.mk H
    clear H
    have p7 : 0 ≤ (a1 : Int) := dT
    have q7 : a1 < (a0.size : Int) := dT
    have hx7 := bt_at a0 a1
    replace p7 := eq_true p7
    replace q7 := eq_true q7
    go_wp2
    go_meet
    case rel => exact ⟨_, (true), zE, H', ⟨by first | omega | exact Nat.le_refl _⟩, zD⟩
   rw [if_neg c6] at H
   exact absurd H (by simp)
  rw [if_neg c5] at H
  exact absurd H (by simp)
 clear HC3
 obtain ⟨kq, x27_2, rfl, HA, HJ2, ⟨mc2, rfl⟩⟩ := hcut
 rcases kq with _ | kj2
 · exact absurd HA.out (by simp [u_.j0])
 have H := HA.out
 clear HA
 simp only [u_.j0] at H
 by_cases c13 : x27_2 = true
 ·
  subst c13
  rw [if_pos rfl] at H
  simp only [Option.some.injEq, Prod.mk.injEq] at H
  obtain ⟨rfl, rfl⟩ := H
  go_wp2
  go_ret2
  exact ⟨by first | rfl | (simp; done) | (simp [nil_ne_, nil_eq_]; done) | (simp [*]; done), zD⟩
 replace c13 := Bool.eq_false_iff.mpr c13
 subst c13
 rw [if_neg Bool.false_ne_true] at H
 have H' := Aside0.mk H
 clear H
 go_wp2
 try simp only [Act.put, List.setIfInBounds_toArray, List.set_cons_succ, List.set_cons_zero]
 go_loopg [6, 7] kj2 (fun kq v6 v7 w' => ∃ (x6_2 : Int) (x7_2 : Int), v6 = .int .i64 x6_2 ∧ v7 = .int .i64 x7_2 ∧ Aside0 (u_.l0 kq a0 a1 x6_2 x7_2 = some (r1, r2)) ∧ Aside0 (kq ≤ kj2) ∧ Drawn0 w w')
 case atStart => exact ⟨(0), (wrap64 (a1 + 2)), zE, zE, H', ⟨Nat.le_refl _⟩, zD⟩
 case round =>
  clear H'
  (try clear c13)
  obtain ⟨x6_2, x7_2, rfl, rfl, HA, HK2, ⟨m2, rfl⟩⟩ := hrel
  rcases gk with _ | k2
  · exact absurd HA.out (by simp [u_.l0])
  have H := HA.out
  clear HA
  simp only [u_.l0] at H
  by_cases c14 : x7_2 < (wrap64 (a1 + 6))
  ·
   rw [if_pos c14] at H
   have c14b0 := decide_eq_true c14
   clear c14
   by_cases c15 : 0 ≤ x7_2
   ·
    rw [if_pos c15] at H
    have c15b0 := decide_eq_true c15
    clear c15
    by_cases c16 : x7_2 < (a0.size : Int)
    ·
     rw [if_pos c16] at H
     have c16b0 := decide_eq_true c16
     clear c16
     replace H := Option.bind_eq_some_iff.mp H
     obtain ⟨⟨t296, t297⟩, A180, H⟩ := H
     try dsimp only at H
     have A18 := Aside0.mk A180
     clear A180
     by_cases c19 : t297 = true
     ·
      subst c19
      rw [if_pos rfl] at H
      have H' := Aside0.mk H
      clear H
      have p17 : 0 ≤ (x7_2 : Int) := dT
      have q17 : x7_2 < (a0.size : Int) := dT
      have hx17 := bt_at a0 x7_2
      replace p17 := eq_true p17
      replace q17 := eq_true q17
      go_wp2_with (first | ((with_reducible refine gate_callee (f := 62) rfl ?_); refine goesL_ (some 40) rfl rfl Tryz.func62 (by kernel_rfl) rfl #[.int .u8 (bt a0 x7_2)] rfl zM ?_; (with_reducible refine (hD_.calls k2 (bt a0 x7_2) t296 true _ A18.out).mono ?_); rintro e w' ⟨rfl, ⟨nd, rfl⟩⟩; refine ⟨_, rfl, ?_⟩))
      go_roundg k2
      case measure => have := HJ2.out; have := HK2.out; omega
      case rel => exact ⟨(wrap64 ((wrap64 (x6_2 * 16)) + t296)), (wrap64 (x7_2 + 1)), zE, zE, H', ⟨by have := HJ2.out; have := HK2.out; omega⟩, zD⟩
     replace c19 := Bool.eq_false_iff.mpr c19
     subst c19
     rw [if_neg Bool.false_ne_true] at H
     simp only [Option.some.injEq, Prod.mk.injEq] at H
     obtain ⟨rfl, rfl⟩ := H
     have p17 : 0 ≤ (x7_2 : Int) := dT
     have q17 : x7_2 < (a0.size : Int) := dT
     have hx17 := bt_at a0 x7_2
     replace p17 := eq_true p17
     replace q17 := eq_true q17
     go_wp2_with (first | ((with_reducible refine gate_callee (f := 62) rfl ?_); refine goesL_ (some 40) rfl rfl Tryz.func62 (by kernel_rfl) rfl #[.int .u8 (bt a0 x7_2)] rfl zM ?_; (with_reducible refine (hD_.calls k2 (bt a0 x7_2) t296 false _ A18.out).mono ?_); rintro e w' ⟨rfl, ⟨nd, rfl⟩⟩; refine ⟨_, rfl, ?_⟩))
     go_ret2
     exact ⟨by first | rfl | (simp; done) | (simp [nil_ne_, nil_eq_]; done) | (simp [*]; done), zD⟩
    rw [if_neg c16] at H
    exact absurd H (by simp)
   rw [if_neg c15] at H
   exact absurd H (by simp)
  rw [if_neg c14] at H
  have c14b0 := decide_eq_false c14
  clear c14
  simp only [Option.some.injEq, Prod.mk.injEq] at H
  obtain ⟨rfl, rfl⟩ := H
  go_wp2
  go_ret2
  exact ⟨by first | rfl | (simp; done) | (simp [nil_ne_, nil_eq_]; done) | (simp [*]; done), zD⟩
def s_.f (a0 : Int) : Option (Int) := if a0 = 98 then (some 8) else (if a0 = 102 then (some 12) else (if a0 = 110 then (some 10) else (if a0 = 114 then (some 13) else (if a0 = 116 then (some 9) else (some a0)))))
set_option maxHeartbeats 8000000 in
set_option maxRecDepth 100000 in
theorem s_.calls (a0 : Int) (r : Int) (w : World) (h : s_.f a0 = some r) :
    Calls Tryz.prog 42 #[.int .u8 a0] w fun e w' => e = .returned (.int .u8 r) ∧ Drawn0 w w' := by
 have H : (if a0 = 98 then (some 8) else (if a0 = 102 then (some 12) else (if a0 = 110 then (some 10) else (if a0 = 114 then (some 13) else (if a0 = 116 then (some 9) else (some a0)))))) = some r := h
 clear h
 by_cases c2 : a0 = 98
 ·
  rw [if_pos c2] at H
  have c2b0 := beq_iff_eq.mpr c2
  have c2b1 := bne_eq_false_iff_eq.mpr c2
  clear c2
  obtain rfl := Option.some.inj H
  go_enter Tryz.func42, Tryz.ntmps42
  go_wp2
  go_ret
  exact ⟨by first | rfl | (simp; done) | (simp [nil_ne_, nil_eq_]; done) | (simp [*]; done), zD⟩
 rw [if_neg c2] at H
 have c2b0 := beq_eq_false_iff_ne.mpr c2
 have c2b1 := bne_iff_ne.mpr c2
 by_cases c3 : a0 = 102
 ·
  rw [if_pos c3] at H
  have c3b0 := beq_iff_eq.mpr c3
  have c3b1 := bne_eq_false_iff_eq.mpr c3
  clear c3
  obtain rfl := Option.some.inj H
  go_enter Tryz.func42, Tryz.ntmps42
  go_wp2
  go_ret
  exact ⟨by first | rfl | (simp; done) | (simp [nil_ne_, nil_eq_]; done) | (simp [*]; done), zD⟩
 rw [if_neg c3] at H
 have c3b0 := beq_eq_false_iff_ne.mpr c3
 have c3b1 := bne_iff_ne.mpr c3
 by_cases c4 : a0 = 110
 ·
  rw [if_pos c4] at H
  have c4b0 := beq_iff_eq.mpr c4
  have c4b1 := bne_eq_false_iff_eq.mpr c4
  clear c4
  obtain rfl := Option.some.inj H
  go_enter Tryz.func42, Tryz.ntmps42
  go_wp2
  go_ret
  exact ⟨by first | rfl | (simp; done) | (simp [nil_ne_, nil_eq_]; done) | (simp [*]; done), zD⟩
 rw [if_neg c4] at H
 have c4b0 := beq_eq_false_iff_ne.mpr c4
 have c4b1 := bne_iff_ne.mpr c4
 by_cases c5 : a0 = 114
 ·
  rw [if_pos c5] at H
  have c5b0 := beq_iff_eq.mpr c5
  have c5b1 := bne_eq_false_iff_eq.mpr c5
  clear c5
  obtain rfl := Option.some.inj H
  go_enter Tryz.func42, Tryz.ntmps42
  go_wp2
  go_ret
  exact ⟨by first | rfl | (simp; done) | (simp [nil_ne_, nil_eq_]; done) | (simp [*]; done), zD⟩
 rw [if_neg c5] at H
 have c5b0 := beq_eq_false_iff_ne.mpr c5
 have c5b1 := bne_iff_ne.mpr c5
 by_cases c6 : a0 = 116
 ·
  rw [if_pos c6] at H
  have c6b0 := beq_iff_eq.mpr c6
  have c6b1 := bne_eq_false_iff_eq.mpr c6
  clear c6
  obtain rfl := Option.some.inj H
  go_enter Tryz.func42, Tryz.ntmps42
  go_wp2
  go_ret
  exact ⟨by first | rfl | (simp; done) | (simp [nil_ne_, nil_eq_]; done) | (simp [*]; done), zD⟩
 rw [if_neg c6] at H
 have c6b0 := beq_eq_false_iff_ne.mpr c6
 have c6b1 := bne_iff_ne.mpr c6
 obtain rfl := Option.some.inj H
 go_enter Tryz.func42, Tryz.ntmps42
 go_wp2
 go_ret
 exact ⟨by first | rfl | (simp; done) | (simp [nil_ne_, nil_eq_]; done) | (simp [*]; done), zD⟩
def hig_.f (a0 : Int) : Option (Bool) := if 55296 ≤ a0 then (some (decide (a0 ≤ 56319))) else (some false)
set_option maxHeartbeats 8000000 in
set_option maxRecDepth 100000 in
theorem hig_.calls (a0 : Int) (r : Bool) (w : World) (h : hig_.f a0 = some r) :
    Calls Tryz.prog 43 #[.int .i64 a0] w fun e w' => e = .returned (.bool r) ∧ Drawn0 w w' := by
 have H : (if 55296 ≤ a0 then (some (decide (a0 ≤ 56319))) else (some false)) = some r := h
 clear h
 by_cases c2 : 55296 ≤ a0
 ·
  rw [if_pos c2] at H
  have c2b0 := decide_eq_true c2
  clear c2
  obtain rfl := Option.some.inj H
  go_enter Tryz.func43, Tryz.ntmps43
  go_wp2
  go_ret
  exact ⟨by first | rfl | (simp; done) | (simp [nil_ne_, nil_eq_]; done) | (simp [*]; done), zD⟩
 rw [if_neg c2] at H
 have c2b0 := decide_eq_false c2
 clear c2
 obtain rfl := Option.some.inj H
 go_enter Tryz.func43, Tryz.ntmps43
 go_wp2
 go_ret
 exact ⟨by first | rfl | (simp; done) | (simp [nil_ne_, nil_eq_]; done) | (simp [*]; done), zD⟩
def spec_low.f (a0 : Int) : Option (Bool) := if 56320 ≤ a0 then (some (decide (a0 ≤ 57343))) else (some false)
set_option maxHeartbeats 8000000 in
set_option maxRecDepth 100000 in
theorem spec_low.calls (a0 : Int) (r : Bool) (w : World) (h : spec_low.f a0 = some r) :
    Calls Tryz.prog 44 #[.int .i64 a0] w fun e w' => e = .returned (.bool r) ∧ Drawn0 w w' := by
 have H : (if 56320 ≤ a0 then (some (decide (a0 ≤ 57343))) else (some false)) = some r := h
 clear h
 by_cases c2 : 56320 ≤ a0
 ·
  rw [if_pos c2] at H
  have c2b0 := decide_eq_true c2
  clear c2
  obtain rfl := Option.some.inj H
  go_enter Tryz.func44, Tryz.ntmps44
  go_wp2
  go_ret
  exact ⟨by first | rfl | (simp; done) | (simp [nil_ne_, nil_eq_]; done) | (simp [*]; done), zD⟩
 rw [if_neg c2] at H
 have c2b0 := decide_eq_false c2
 clear c2
 obtain rfl := Option.some.inj H
 go_enter Tryz.func44, Tryz.ntmps44
 go_wp2
 go_ret
 exact ⟨by first | rfl | (simp; done) | (simp [nil_ne_, nil_eq_]; done) | (simp [*]; done), zD⟩
def aUTF_.j0 : Nat → List Int → Int → Bool → Option (List Int)
  | 0, _, _, _ => none
  | k + 1, x0, x1, x27 => if x27 = true then ((some (([239, 191, 189] : List Int) : List Int)).bind fun y309 => (if x0.length + y309.length < 140737488355328 then (some (x0 ++ y309)) else (none))) else (if x1 < 65536 then ((some (([(wrap64 (224 + (wrap64 (Int.tdiv x1 4096)))) % 256, (wrap64 (128 + (Int.tmod (wrap64 (Int.tdiv x1 64)) 64))) % 256, (wrap64 (128 + (Int.tmod x1 64))) % 256] : List Int) : List Int)).bind fun y315 => (if x0.length + y315.length < 140737488355328 then (some (x0 ++ y315)) else (none))) else ((some (([(wrap64 (240 + (wrap64 (Int.tdiv x1 262144)))) % 256, (wrap64 (128 + (Int.tmod (wrap64 (Int.tdiv x1 4096)) 64))) % 256, (wrap64 (128 + (Int.tmod (wrap64 (Int.tdiv x1 64)) 64))) % 256, (wrap64 (128 + (Int.tmod x1 64))) % 256] : List Int) : List Int)).bind fun y321 => (if x0.length + y321.length < 140737488355328 then (some (x0 ++ y321)) else (none))))
def aUTF_.f (k : Nat) (l0 : List Int) (a1 : Int) : Option (List Int) := if a1 < 128 then (if l0.length < 140737488355328 then (some (l0 ++ [(a1) % 256])) else (none)) else (if a1 < 2048 then ((some (([(wrap64 (192 + (wrap64 (Int.tdiv a1 64)))) % 256, (wrap64 (128 + (Int.tmod a1 64))) % 256] : List Int) : List Int)).bind fun y301 => (if l0.length + y301.length < 140737488355328 then (some (l0 ++ y301)) else (none))) else ((hig_.f a1).bind fun t307 => (if t307 = true then (aUTF_.j0 k l0 a1 true) else ((spec_low.f a1).bind fun t308 => (aUTF_.j0 k l0 a1 t308)))))
set_option maxHeartbeats 8000000 in
set_option maxRecDepth 100000 in
theorem aUTF_.calls (k : Nat) (P0_ : Nat → Prop) (u9000_ : Value) (l0 : List Int) (a1 : Int) (r : List Int) (w0 w : World) (hB : Below w0.heap.size w0 w) (ho0 : Kd.R (Kd.int .u8) 5 w w0.heap.size P0_ u9000_ l0) (h : aUTF_.f k l0 a1 = some r) :
    Calls Tryz.prog 45 #[u9000_, .int .i64 a1] w fun e w' => ∃ v0_ : Value, e = .returned (v0_) ∧ Kd.R (Kd.int .u8) 5 w' w0.heap.size (fun k_ => (P0_ k_ ∨ w.heap.size ≤ k_)) v0_ r ∧ Below w0.heap.size w0 w' ∧ Kept w w' (fun k_ => P0_ k_) := by
 have HO0 := Aside0.mk (show Kd.R (Kd.int .u8) 5 w w0.heap.size (fun k_ => (P0_ k_ ∨ w.heap.size ≤ k_)) u9000_ l0 from Kd.R_mono ho0 (fun k_ hk => (.inl hk)))
 have HK := Aside0.mk (Kept.refl w (fun k_ => P0_ k_))
 have HW0 := Aside0.mk hB.size
 have HB := Aside0.mk hB
 clear hB
 have H : (if a1 < 128 then (if l0.length < 140737488355328 then (some (l0 ++ [(a1) % 256])) else (none)) else (if a1 < 2048 then ((some (([(wrap64 (192 + (wrap64 (Int.tdiv a1 64)))) % 256, (wrap64 (128 + (Int.tmod a1 64))) % 256] : List Int) : List Int)).bind fun y301 => (if l0.length + y301.length < 140737488355328 then (some (l0 ++ y301)) else (none))) else ((hig_.f a1).bind fun t307 => (if t307 = true then (aUTF_.j0 k l0 a1 true) else ((spec_low.f a1).bind fun t308 => (aUTF_.j0 k l0 a1 t308)))))) = some r := h
 clear h
 by_cases c3 : a1 < 128
 ·
  rw [if_pos c3] at H
  have c3b0 := decide_eq_true c3
  clear c3
  by_cases c4 : l0.length < 140737488355328
  ·
   rw [if_pos c4] at H
   have LMc4 := Aside0.mk c4
   clear c4
   obtain ⟨y298, hy298⟩ : ∃ y_ : List Int, y_ = (l0 ++ [(a1) % 256]) := ⟨_, rfl⟩
   replace H : (some y298) = some r := by first | (rw [hy298]; with_reducible exact H) | (have H2_ := (Option.bind_some _ _).symm.trans H; rw [hy298]; with_reducible exact H2_) | (have H2_ := (Option.bind_some _ _).symm.trans H; with_reducible exact H2_) | with_reducible exact H | (rw [hy298]; exact H) | exact H
   have Ny298 := Aside0.mk hy298
   clear hy298
   obtain rfl := Option.some.inj H
   go_enter Tryz.func45, Tryz.ntmps45
   go_wp2_with (first | ((with_reducible refine gate_builtin (b := .append) (xs := #[.tmp 8, .tmp 11]) rfl ?_); at_builtin; refine Kd.R_append (Kd.int .u8) (w0 := w0) w0.heap.size rfl (.tmp 8) (.tmp 11) 51 5 (.int .u8 0) 1 rfl Tryz.underlying51 info5 rfl (by decide) (by omega) u9000_ l0 ((a1) % 256) [.int .u8 ((a1) % 256)] (fun k_ => (P0_ k_ ∨ w.heap.size ≤ k_)) (fun _ => False) rfl rfl ?aP (fun _ hk => hk.elim) ?aF ?aO ?aB ?aS ?aL ?_; (case aP => exact rfl); (case aB => exact (zB HB.out)); (case aF => exact (fun k_ hk => (.inr (Nat.le_trans (by first | exact HK.out.1 | exact (zkp HK : Kept w _ (fun k_ => P0_ k_)).1) hk)))); (case aO => exact (zR HO0.out)); (case aS => exact (below_size (zB HB.out))); (case aL => have := LMc4.out; omega); intro v299 w5 ho hb hg hat; rw [← Ny298.out] at ho; replace HB := Aside0.mk (hb); replace HK := Aside0.mk (Kept.of_grown (S := (fun k_ => P0_ k_)) hg (zkp HK) (fun k_ e_ => (HO0.out.1 k_ e_))); have HO300 := Aside0.mk (ho); clear HO0; clear ho hb hg hat))
   go_ret
   exact ⟨_, zX, by (with_reducible repeat (first | apply Kd.R_alloc | apply Kd.R_drewN | apply Kd.R_drew)); exact HO300.out, zB HB.out, by repeat (first | (with_reducible first | exact HK.out | apply Kept.alloc | apply Kept.drewN | apply Kept.drew) | exact HK.out)⟩
  rw [if_neg c4] at H
  exact absurd H (by simp)
 rw [if_neg c3] at H
 have c3b0 := decide_eq_false c3
 clear c3
 by_cases c6 : a1 < 2048
 ·
  rw [if_pos c6] at H
  have c6b0 := decide_eq_true c6
  clear c6
  obtain ⟨y301, hy301⟩ : ∃ y_ : List Int, y_ = (([(wrap64 (192 + (wrap64 (Int.tdiv a1 64)))) % 256, (wrap64 (128 + (Int.tmod a1 64))) % 256] : List Int)) := ⟨_, rfl⟩
  replace H : (if l0.length + y301.length < 140737488355328 then (some (l0 ++ y301)) else (none)) = some r := by first | (rw [hy301]; with_reducible exact H) | (have H2_ := (Option.bind_some _ _).symm.trans H; rw [hy301]; with_reducible exact H2_) | (have H2_ := (Option.bind_some _ _).symm.trans H; with_reducible exact H2_) | with_reducible exact H | (rw [hy301]; exact H) | exact H
  have Ny301 := Aside0.mk hy301
  clear hy301
  by_cases c7 : l0.length + y301.length < 140737488355328
  ·
   rw [if_pos c7] at H
   have LMc7 := Aside0.mk c7
   clear c7
   obtain ⟨y304, hy304⟩ : ∃ y_ : List Int, y_ = (l0 ++ y301) := ⟨_, rfl⟩
   replace H : (some y304) = some r := by first | (rw [hy304]; with_reducible exact H) | (have H2_ := (Option.bind_some _ _).symm.trans H; rw [hy304]; with_reducible exact H2_) | (have H2_ := (Option.bind_some _ _).symm.trans H; with_reducible exact H2_) | with_reducible exact H | (rw [hy304]; exact H) | exact H
   have Ny304 := Aside0.mk hy304
   clear hy304
   obtain rfl := Option.some.inj H
   go_enter Tryz.func45, Tryz.ntmps45
   go_wp2_with (first | ((with_reducible refine gate_dst (N := 25) rfl ?_); refine Kd.R_lit (Kd.int .u8) _ 5 ?hg (N := 25) ?hd (xs := ([(wrap64 (192 + (wrap64 (Int.tdiv a1 64)))) % 256, (wrap64 (128 + (Int.tmod a1 64))) % 256] : List Int)) (inner := [.int .u8 ((wrap64 (192 + (wrap64 (Int.tdiv a1 64)))) % 256), .int .u8 ((wrap64 (128 + (Int.tmod a1 64))) % 256)]) (ok := fun _ => True) (okp := fun _ => True) ?hr ?hp (fun _ hk => hk) trivial (Below.refl _ _) (Nat.le_refl _) (by simp) ?_; (case hd => rfl); (case hg => rfl); (case hr => first | (go_simp; done) | (go_simp; rfl)); (case hp => exact (Reps.one (show Kd.M (Kd.int .u8) _ _ _ ((wrap64 (192 + (wrap64 (Int.tdiv a1 64)))) % 256) [.int .u8 ((wrap64 (192 + (wrap64 (Int.tdiv a1 64)))) % 256)] from rfl) (Reps.one (show Kd.M (Kd.int .u8) _ _ _ ((wrap64 (128 + (Int.tmod a1 64))) % 256) [.int .u8 ((wrap64 (128 + (Int.tmod a1 64))) % 256)] from rfl) (Reps.none _ _)))); intro v302 w8 ho9 hb hg_ hnew_; clear hg_ hnew_; (first | rw [← Ny301.out] at ho9 | (simp only [Int.reduceToNat] at ho9; rw [← Ny301.out] at ho9)); have HO303 := Aside0.mk (Kd.R_lower (Kd.R_new' (Kd.R_newM (M := fun k_ => (P0_ k_ ∨ w.heap.size ≤ k_)) ho9 (by first | exact HK.out.1 | exact (zkp HK : Kept w _ (fun k_ => P0_ k_)).1) (fun k_ h_ => .inr h_)) (Kd.R_lt (zR HO0.out))) (below_size (zB HB.out))); replace HO0 := Aside0.mk (Kd.R_elder' (zR HO0.out) (Kd.R_base ho9) hb); replace HK := Aside0.mk (Kept.below (S := (fun k_ => P0_ k_)) (zkp HK) hb); replace HB := zbs HB hb; clear hb ho9; obtain ⟨Ao11, co11, eo11⟩ := Kd.R_slice HO303.out; subst eo11) | ((with_reducible refine gate_builtin (b := .append) (xs := #[.tmp 16, .tmp 25]) rfl ?_); at_builtin; refine Kd.R_append_rows (Kd.int .u8) (w0 := w0) w0.heap.size rfl (.tmp 16) (.tmp 25) 51 5 (.int .u8 0) 1 rfl Tryz.underlying51 info5 rfl (by decide) (by omega) u9000_ l0 y301 _ _ _ (fun k_ => (P0_ k_ ∨ w.heap.size ≤ k_) ∧ some k_ ≠ (.slice Ao11 y301.length co11 : Value).ownBlock) (fun _ => False) rfl rfl ?aO ?aR (fun _ _ h => h) (fun _ h => h.elim) ?aF ?aB ?aS ?aL ?_; (case aR => repeat (first | exact (Kd.R_reads' HO303.out).2.2 | (with_reducible refine Kd.C_alloc ?_ _) | (with_reducible refine Kd.C_drewN ?_ _) | (with_reducible refine Kd.C_drew ?_))); (case aB => exact (zB HB.out)); (case aF => exact (fun k_ hk => ⟨(.inr (Nat.le_trans (by first | exact HK.out.1 | exact (zkp HK : Kept w _ (fun k_ => P0_ k_)).1) hk)), Kd.fresh' (Kd.R_lt (zR HO303.out)) k_ hk⟩)); (case aO => exact (zR HO0.out)); (case aS => exact (below_size (zB HB.out))); (case aL => have := LMc7.out; omega); intro v305 w10 ho hb hg hat; rw [← Ny304.out] at ho; replace HO303 := Aside0.mk (Kd.R_after (ok := (fun k_ => (P0_ k_ ∨ w.heap.size ≤ k_))) (zR (Kd.R_mono HO303.out (fun _ hk => ⟨hk.1.1, hk.2⟩))) hg hat); replace HB := Aside0.mk (hb); replace HK := Aside0.mk (Kept.of_grown (S := (fun k_ => P0_ k_)) hg (zkp HK) (fun k_ e_ => (HO0.out.1 k_ e_).1)); have HO306 := Aside0.mk (ho); clear HO0; clear ho hb hg hat))
   go_ret
   exact ⟨_, zX, by (with_reducible repeat (first | apply Kd.R_alloc | apply Kd.R_drewN | apply Kd.R_drew)); exact Kd.R_mono HO306.out (fun _ hk => hk.1), zB HB.out, by repeat (first | (with_reducible first | exact HK.out | apply Kept.alloc | apply Kept.drewN | apply Kept.drew) | exact HK.out)⟩
  rw [if_neg c7] at H
  exact absurd H (by simp)
 rw [if_neg c6] at H
 have c6b0 := decide_eq_false c6
 clear c6
 have HC12 := Aside0.mk H
 clear H
 go_enter Tryz.func45, Tryz.ntmps45
 go_upto_region 5 with (fail)
 go_cut [27] (fun v27 wc => ∃ (kq : Nat) (x27_11 : Bool), v27 = .bool x27_11 ∧ Aside0 (aUTF_.j0 kq l0 a1 x27_11 = some r) ∧ Aside0 (kq ≤ k) ∧ Aside0 (Kd.R (Kd.int .u8) 5 wc w0.heap.size (fun k_ => (P0_ k_ ∨ w.heap.size ≤ k_)) u9000_ l0) ∧ Aside0 (Kept w wc (fun k_ => P0_ k_)) ∧ Aside0 (Below w0.heap.size w0 wc))
 case first =>
  have H := HC12.out
  clear HC12
  replace H := Option.bind_eq_some_iff.mp H
  obtain ⟨t307, A130, H⟩ := H
  try dsimp only at H
  have A13 := Aside0.mk A130
  clear A130
  by_cases c14 : t307 = true
  ·
   subst c14
   rw [if_pos rfl] at H
   have H' := Aside0.mk H
   clear H
   go_wp2_with (first | ((with_reducible refine gate_callee (f := 43) rfl ?_); refine goesL_ (some 29) rfl rfl Tryz.func43 (by kernel_rfl) rfl #[.int .i64 a1] rfl zM ?_; (with_reducible refine (hig_.calls a1 true _ A13.out).mono ?_); rintro e w' ⟨rfl, ⟨nd, rfl⟩⟩; refine ⟨_, rfl, ?_⟩))
   go_meet
   case rel => exact ⟨_, (true), zE, H', ⟨by first | omega | exact Nat.le_refl _⟩, ⟨by (with_reducible repeat (first | apply Kd.R_alloc | apply Kd.R_drewN | apply Kd.R_drew)); exact HO0.out⟩, ⟨by repeat (first | (with_reducible first | exact HK.out | apply Kept.alloc | apply Kept.drewN | apply Kept.drew) | exact HK.out)⟩, ⟨zB HB.out⟩⟩
  replace c14 := Bool.eq_false_iff.mpr c14
  subst c14
  rw [if_neg Bool.false_ne_true] at H
  replace H := Option.bind_eq_some_iff.mp H
  obtain ⟨t308, A150, H⟩ := H
  try dsimp only at H
  have A15 := Aside0.mk A150
  clear A150
  have H' := Aside0.mk H
  clear H
  go_wp2_with (first | ((with_reducible refine gate_callee (f := 43) rfl ?_); refine goesL_ (some 29) rfl rfl Tryz.func43 (by kernel_rfl) rfl #[.int .i64 a1] rfl zM ?_; (with_reducible refine (hig_.calls a1 false _ A13.out).mono ?_); rintro e w' ⟨rfl, ⟨nd, rfl⟩⟩; refine ⟨_, rfl, ?_⟩) | (go_at_call 44; (with_reducible refine (spec_low.calls a1 t308 _ A15.out).mono ?_); rintro e w' ⟨rfl, ⟨nd, rfl⟩⟩))
  go_meet
  case rel => exact ⟨_, (t308), zE, H', ⟨by first | omega | exact Nat.le_refl _⟩, ⟨by (with_reducible repeat (first | apply Kd.R_alloc | apply Kd.R_drewN | apply Kd.R_drew)); exact HO0.out⟩, ⟨by repeat (first | (with_reducible first | exact HK.out | apply Kept.alloc | apply Kept.drewN | apply Kept.drew) | exact HK.out)⟩, ⟨zB HB.out⟩⟩
 clear HC12
 (try clear c3b0); (try clear c6b0)
 obtain ⟨kq, x27_11, rfl, HA, HJ11, HO_0, HK, HB⟩ := hcut
 rcases kq with _ | kj11
 · exact absurd HA.out (by simp [aUTF_.j0])
 have H := HA.out
 clear HA
 simp only [aUTF_.j0] at H
 by_cases c16 : x27_11 = true
 ·
  subst c16
  rw [if_pos rfl] at H
  obtain ⟨y309, hy309⟩ : ∃ y_ : List Int, y_ = (([239, 191, 189] : List Int)) := ⟨_, rfl⟩
  replace H : (if l0.length + y309.length < 140737488355328 then (some (l0 ++ y309)) else (none)) = some r := by first | (rw [hy309]; with_reducible exact H) | (have H2_ := (Option.bind_some _ _).symm.trans H; rw [hy309]; with_reducible exact H2_) | (have H2_ := (Option.bind_some _ _).symm.trans H; with_reducible exact H2_) | with_reducible exact H | (rw [hy309]; exact H) | exact H
  have Ny309 := Aside0.mk hy309
  clear hy309
  by_cases c17 : l0.length + y309.length < 140737488355328
  ·
   rw [if_pos c17] at H
   have LMc17 := Aside0.mk c17
   clear c17
   obtain ⟨y312, hy312⟩ : ∃ y_ : List Int, y_ = (l0 ++ y309) := ⟨_, rfl⟩
   replace H : (some y312) = some r := by first | (rw [hy312]; with_reducible exact H) | (have H2_ := (Option.bind_some _ _).symm.trans H; rw [hy312]; with_reducible exact H2_) | (have H2_ := (Option.bind_some _ _).symm.trans H; with_reducible exact H2_) | with_reducible exact H | (rw [hy312]; exact H) | exact H
   have Ny312 := Aside0.mk hy312
   clear hy312
   obtain rfl := Option.some.inj H
   go_wp2_with (first | ((with_reducible refine gate_dst (N := 35) rfl ?_); refine Kd.R_lit (Kd.int .u8) _ 5 ?hg (N := 35) ?hd (xs := ([239, 191, 189] : List Int)) (inner := [.int .u8 239, .int .u8 191, .int .u8 189]) (ok := fun _ => True) (okp := fun _ => True) ?hr ?hp (fun _ hk => hk) trivial (Below.refl _ _) (Nat.le_refl _) (by simp) ?_; (case hd => rfl); (case hg => rfl); (case hr => first | (go_simp; done) | (go_simp; rfl)); (case hp => exact (Reps.one (show Kd.M (Kd.int .u8) _ _ _ 239 [.int .u8 239] from rfl) (Reps.one (show Kd.M (Kd.int .u8) _ _ _ 191 [.int .u8 191] from rfl) (Reps.one (show Kd.M (Kd.int .u8) _ _ _ 189 [.int .u8 189] from rfl) (Reps.none _ _))))); intro v310 w18 ho19 hb hg_ hnew_; clear hg_ hnew_; (first | rw [← Ny309.out] at ho19 | (simp only [Int.reduceToNat] at ho19; rw [← Ny309.out] at ho19)); have HO311 := Aside0.mk (Kd.R_lower (Kd.R_new' (Kd.R_newM (M := fun k_ => (P0_ k_ ∨ w.heap.size ≤ k_)) ho19 (by first | exact HK.out.1 | exact (zkp HK : Kept w _ (fun k_ => P0_ k_)).1) (fun k_ h_ => .inr h_)) (Kd.R_lt (zR HO_0.out))) (below_size (zB HB.out))); replace HO_0 := Aside0.mk (Kd.R_elder' (zR HO_0.out) (Kd.R_base ho19) hb); replace HK := Aside0.mk (Kept.below (S := (fun k_ => P0_ k_)) (zkp HK) hb); replace HB := zbs HB hb; clear hb ho19; obtain ⟨Ao21, co21, eo21⟩ := Kd.R_slice HO311.out; subst eo21) | ((with_reducible refine gate_builtin (b := .append) (xs := #[.tmp 34, .tmp 35]) rfl ?_); at_builtin; refine Kd.R_append_rows (Kd.int .u8) (w0 := w0) w0.heap.size rfl (.tmp 34) (.tmp 35) 51 5 (.int .u8 0) 1 rfl Tryz.underlying51 info5 rfl (by decide) (by omega) u9000_ l0 y309 _ _ _ (fun k_ => (P0_ k_ ∨ w.heap.size ≤ k_) ∧ some k_ ≠ (.slice Ao21 y309.length co21 : Value).ownBlock) (fun _ => False) rfl rfl ?aO ?aR (fun _ _ h => h) (fun _ h => h.elim) ?aF ?aB ?aS ?aL ?_; (case aR => repeat (first | exact (Kd.R_reads' HO311.out).2.2 | (with_reducible refine Kd.C_alloc ?_ _) | (with_reducible refine Kd.C_drewN ?_ _) | (with_reducible refine Kd.C_drew ?_))); (case aB => exact (zB HB.out)); (case aF => exact (fun k_ hk => ⟨(.inr (Nat.le_trans (by first | exact HK.out.1 | exact (zkp HK : Kept w _ (fun k_ => P0_ k_)).1) hk)), Kd.fresh' (Kd.R_lt (zR HO311.out)) k_ hk⟩)); (case aO => exact (zR HO_0.out)); (case aS => exact (below_size (zB HB.out))); (case aL => have := LMc17.out; omega); intro v313 w20 ho hb hg hat; rw [← Ny312.out] at ho; replace HO311 := Aside0.mk (Kd.R_after (ok := (fun k_ => (P0_ k_ ∨ w.heap.size ≤ k_))) (zR (Kd.R_mono HO311.out (fun _ hk => ⟨hk.1.1, hk.2⟩))) hg hat); replace HB := Aside0.mk (hb); replace HK := Aside0.mk (Kept.of_grown (S := (fun k_ => P0_ k_)) hg (zkp HK) (fun k_ e_ => (HO_0.out.1 k_ e_).1)); have HO314 := Aside0.mk (ho); clear HO_0; clear ho hb hg hat))
   go_ret
   exact ⟨_, zX, by (with_reducible repeat (first | apply Kd.R_alloc | apply Kd.R_drewN | apply Kd.R_drew)); exact Kd.R_mono HO314.out (fun _ hk => hk.1), zB HB.out, by repeat (first | (with_reducible first | exact HK.out | apply Kept.alloc | apply Kept.drewN | apply Kept.drew) | exact HK.out)⟩
  rw [if_neg c17] at H
  exact absurd H (by simp)
 replace c16 := Bool.eq_false_iff.mpr c16
 subst c16
 rw [if_neg Bool.false_ne_true] at H
 by_cases c22 : a1 < 65536
 ·
  rw [if_pos c22] at H
  have c22b0 := decide_eq_true c22
  clear c22
  obtain ⟨y315, hy315⟩ : ∃ y_ : List Int, y_ = (([(wrap64 (224 + (wrap64 (Int.tdiv a1 4096)))) % 256, (wrap64 (128 + (Int.tmod (wrap64 (Int.tdiv a1 64)) 64))) % 256, (wrap64 (128 + (Int.tmod a1 64))) % 256] : List Int)) := ⟨_, rfl⟩
  replace H : (if l0.length + y315.length < 140737488355328 then (some (l0 ++ y315)) else (none)) = some r := by first | (rw [hy315]; with_reducible exact H) | (have H2_ := (Option.bind_some _ _).symm.trans H; rw [hy315]; with_reducible exact H2_) | (have H2_ := (Option.bind_some _ _).symm.trans H; with_reducible exact H2_) | with_reducible exact H | (rw [hy315]; exact H) | exact H
  have Ny315 := Aside0.mk hy315
  clear hy315
  by_cases c23 : l0.length + y315.length < 140737488355328
  ·
   rw [if_pos c23] at H
   have LMc23 := Aside0.mk c23
   clear c23
   obtain ⟨y318, hy318⟩ : ∃ y_ : List Int, y_ = (l0 ++ y315) := ⟨_, rfl⟩
   replace H : (some y318) = some r := by first | (rw [hy318]; with_reducible exact H) | (have H2_ := (Option.bind_some _ _).symm.trans H; rw [hy318]; with_reducible exact H2_) | (have H2_ := (Option.bind_some _ _).symm.trans H; with_reducible exact H2_) | with_reducible exact H | (rw [hy318]; exact H) | exact H
   have Ny318 := Aside0.mk hy318
   clear hy318
   obtain rfl := Option.some.inj H
   go_wp2_with (first | ((with_reducible refine gate_dst (N := 54) rfl ?_); refine Kd.R_lit (Kd.int .u8) _ 5 ?hg (N := 54) ?hd (xs := ([(wrap64 (224 + (wrap64 (Int.tdiv a1 4096)))) % 256, (wrap64 (128 + (Int.tmod (wrap64 (Int.tdiv a1 64)) 64))) % 256, (wrap64 (128 + (Int.tmod a1 64))) % 256] : List Int)) (inner := [.int .u8 ((wrap64 (224 + (wrap64 (Int.tdiv a1 4096)))) % 256), .int .u8 ((wrap64 (128 + (Int.tmod (wrap64 (Int.tdiv a1 64)) 64))) % 256), .int .u8 ((wrap64 (128 + (Int.tmod a1 64))) % 256)]) (ok := fun _ => True) (okp := fun _ => True) ?hr ?hp (fun _ hk => hk) trivial (Below.refl _ _) (Nat.le_refl _) (by simp) ?_; (case hd => rfl); (case hg => rfl); (case hr => first | (go_simp; done) | (go_simp; rfl)); (case hp => exact (Reps.one (show Kd.M (Kd.int .u8) _ _ _ ((wrap64 (224 + (wrap64 (Int.tdiv a1 4096)))) % 256) [.int .u8 ((wrap64 (224 + (wrap64 (Int.tdiv a1 4096)))) % 256)] from rfl) (Reps.one (show Kd.M (Kd.int .u8) _ _ _ ((wrap64 (128 + (Int.tmod (wrap64 (Int.tdiv a1 64)) 64))) % 256) [.int .u8 ((wrap64 (128 + (Int.tmod (wrap64 (Int.tdiv a1 64)) 64))) % 256)] from rfl) (Reps.one (show Kd.M (Kd.int .u8) _ _ _ ((wrap64 (128 + (Int.tmod a1 64))) % 256) [.int .u8 ((wrap64 (128 + (Int.tmod a1 64))) % 256)] from rfl) (Reps.none _ _))))); intro v316 w24 ho25 hb hg_ hnew_; clear hg_ hnew_; (first | rw [← Ny315.out] at ho25 | (simp only [Int.reduceToNat] at ho25; rw [← Ny315.out] at ho25)); have HO317 := Aside0.mk (Kd.R_lower (Kd.R_new' (Kd.R_newM (M := fun k_ => (P0_ k_ ∨ w.heap.size ≤ k_)) ho25 (by first | exact HK.out.1 | exact (zkp HK : Kept w _ (fun k_ => P0_ k_)).1) (fun k_ h_ => .inr h_)) (Kd.R_lt (zR HO_0.out))) (below_size (zB HB.out))); replace HO_0 := Aside0.mk (Kd.R_elder' (zR HO_0.out) (Kd.R_base ho25) hb); replace HK := Aside0.mk (Kept.below (S := (fun k_ => P0_ k_)) (zkp HK) hb); replace HB := zbs HB hb; clear hb ho25; obtain ⟨Ao27, co27, eo27⟩ := Kd.R_slice HO317.out; subst eo27) | ((with_reducible refine gate_builtin (b := .append) (xs := #[.tmp 40, .tmp 54]) rfl ?_); at_builtin; refine Kd.R_append_rows (Kd.int .u8) (w0 := w0) w0.heap.size rfl (.tmp 40) (.tmp 54) 51 5 (.int .u8 0) 1 rfl Tryz.underlying51 info5 rfl (by decide) (by omega) u9000_ l0 y315 _ _ _ (fun k_ => (P0_ k_ ∨ w.heap.size ≤ k_) ∧ some k_ ≠ (.slice Ao27 y315.length co27 : Value).ownBlock) (fun _ => False) rfl rfl ?aO ?aR (fun _ _ h => h) (fun _ h => h.elim) ?aF ?aB ?aS ?aL ?_; (case aR => repeat (first | exact (Kd.R_reads' HO317.out).2.2 | (with_reducible refine Kd.C_alloc ?_ _) | (with_reducible refine Kd.C_drewN ?_ _) | (with_reducible refine Kd.C_drew ?_))); (case aB => exact (zB HB.out)); (case aF => exact (fun k_ hk => ⟨(.inr (Nat.le_trans (by first | exact HK.out.1 | exact (zkp HK : Kept w _ (fun k_ => P0_ k_)).1) hk)), Kd.fresh' (Kd.R_lt (zR HO317.out)) k_ hk⟩)); (case aO => exact (zR HO_0.out)); (case aS => exact (below_size (zB HB.out))); (case aL => have := LMc23.out; omega); intro v319 w26 ho hb hg hat; rw [← Ny318.out] at ho; replace HO317 := Aside0.mk (Kd.R_after (ok := (fun k_ => (P0_ k_ ∨ w.heap.size ≤ k_))) (zR (Kd.R_mono HO317.out (fun _ hk => ⟨hk.1.1, hk.2⟩))) hg hat); replace HB := Aside0.mk (hb); replace HK := Aside0.mk (Kept.of_grown (S := (fun k_ => P0_ k_)) hg (zkp HK) (fun k_ e_ => (HO_0.out.1 k_ e_).1)); have HO320 := Aside0.mk (ho); clear HO_0; clear ho hb hg hat))
   go_ret
   exact ⟨_, zX, by (with_reducible repeat (first | apply Kd.R_alloc | apply Kd.R_drewN | apply Kd.R_drew)); exact Kd.R_mono HO320.out (fun _ hk => hk.1), zB HB.out, by repeat (first | (with_reducible first | exact HK.out | apply Kept.alloc | apply Kept.drewN | apply Kept.drew) | exact HK.out)⟩
  rw [if_neg c23] at H
  exact absurd H (by simp)
 rw [if_neg c22] at H
 have c22b0 := decide_eq_false c22
 clear c22
 obtain ⟨y321, hy321⟩ : ∃ y_ : List Int, y_ = (([(wrap64 (240 + (wrap64 (Int.tdiv a1 262144)))) % 256, (wrap64 (128 + (Int.tmod (wrap64 (Int.tdiv a1 4096)) 64))) % 256, (wrap64 (128 + (Int.tmod (wrap64 (Int.tdiv a1 64)) 64))) % 256, (wrap64 (128 + (Int.tmod a1 64))) % 256] : List Int)) := ⟨_, rfl⟩
 replace H : (if l0.length + y321.length < 140737488355328 then (some (l0 ++ y321)) else (none)) = some r := by first | (rw [hy321]; with_reducible exact H) | (have H2_ := (Option.bind_some _ _).symm.trans H; rw [hy321]; with_reducible exact H2_) | (have H2_ := (Option.bind_some _ _).symm.trans H; with_reducible exact H2_) | with_reducible exact H | (rw [hy321]; exact H) | exact H
 have Ny321 := Aside0.mk hy321
 clear hy321
 by_cases c28 : l0.length + y321.length < 140737488355328
 ·
  rw [if_pos c28] at H
  have LMc28 := Aside0.mk c28
  clear c28
  obtain ⟨y324, hy324⟩ : ∃ y_ : List Int, y_ = (l0 ++ y321) := ⟨_, rfl⟩
  replace H : (some y324) = some r := by first | (rw [hy324]; with_reducible exact H) | (have H2_ := (Option.bind_some _ _).symm.trans H; rw [hy324]; with_reducible exact H2_) | (have H2_ := (Option.bind_some _ _).symm.trans H; with_reducible exact H2_) | with_reducible exact H | (rw [hy324]; exact H) | exact H
  have Ny324 := Aside0.mk hy324
  clear hy324
  obtain rfl := Option.some.inj H
  go_wp2_with (first | ((with_reducible refine gate_dst (N := 75) rfl ?_); refine Kd.R_lit (Kd.int .u8) _ 5 ?hg (N := 75) ?hd (xs := ([(wrap64 (240 + (wrap64 (Int.tdiv a1 262144)))) % 256, (wrap64 (128 + (Int.tmod (wrap64 (Int.tdiv a1 4096)) 64))) % 256, (wrap64 (128 + (Int.tmod (wrap64 (Int.tdiv a1 64)) 64))) % 256, (wrap64 (128 + (Int.tmod a1 64))) % 256] : List Int)) (inner := [.int .u8 ((wrap64 (240 + (wrap64 (Int.tdiv a1 262144)))) % 256), .int .u8 ((wrap64 (128 + (Int.tmod (wrap64 (Int.tdiv a1 4096)) 64))) % 256), .int .u8 ((wrap64 (128 + (Int.tmod (wrap64 (Int.tdiv a1 64)) 64))) % 256), .int .u8 ((wrap64 (128 + (Int.tmod a1 64))) % 256)]) (ok := fun _ => True) (okp := fun _ => True) ?hr ?hp (fun _ hk => hk) trivial (Below.refl _ _) (Nat.le_refl _) (by simp) ?_; (case hd => rfl); (case hg => rfl); (case hr => first | (go_simp; done) | (go_simp; rfl)); (case hp => exact (Reps.one (show Kd.M (Kd.int .u8) _ _ _ ((wrap64 (240 + (wrap64 (Int.tdiv a1 262144)))) % 256) [.int .u8 ((wrap64 (240 + (wrap64 (Int.tdiv a1 262144)))) % 256)] from rfl) (Reps.one (show Kd.M (Kd.int .u8) _ _ _ ((wrap64 (128 + (Int.tmod (wrap64 (Int.tdiv a1 4096)) 64))) % 256) [.int .u8 ((wrap64 (128 + (Int.tmod (wrap64 (Int.tdiv a1 4096)) 64))) % 256)] from rfl) (Reps.one (show Kd.M (Kd.int .u8) _ _ _ ((wrap64 (128 + (Int.tmod (wrap64 (Int.tdiv a1 64)) 64))) % 256) [.int .u8 ((wrap64 (128 + (Int.tmod (wrap64 (Int.tdiv a1 64)) 64))) % 256)] from rfl) (Reps.one (show Kd.M (Kd.int .u8) _ _ _ ((wrap64 (128 + (Int.tmod a1 64))) % 256) [.int .u8 ((wrap64 (128 + (Int.tmod a1 64))) % 256)] from rfl) (Reps.none _ _)))))); intro v322 w29 ho30 hb hg_ hnew_; clear hg_ hnew_; (first | rw [← Ny321.out] at ho30 | (simp only [Int.reduceToNat] at ho30; rw [← Ny321.out] at ho30)); have HO323 := Aside0.mk (Kd.R_lower (Kd.R_new' (Kd.R_newM (M := fun k_ => (P0_ k_ ∨ w.heap.size ≤ k_)) ho30 (by first | exact HK.out.1 | exact (zkp HK : Kept w _ (fun k_ => P0_ k_)).1) (fun k_ h_ => .inr h_)) (Kd.R_lt (zR HO_0.out))) (below_size (zB HB.out))); replace HO_0 := Aside0.mk (Kd.R_elder' (zR HO_0.out) (Kd.R_base ho30) hb); replace HK := Aside0.mk (Kept.below (S := (fun k_ => P0_ k_)) (zkp HK) hb); replace HB := zbs HB hb; clear hb ho30; obtain ⟨Ao32, co32, eo32⟩ := Kd.R_slice HO323.out; subst eo32) | ((with_reducible refine gate_builtin (b := .append) (xs := #[.tmp 56, .tmp 75]) rfl ?_); at_builtin; refine Kd.R_append_rows (Kd.int .u8) (w0 := w0) w0.heap.size rfl (.tmp 56) (.tmp 75) 51 5 (.int .u8 0) 1 rfl Tryz.underlying51 info5 rfl (by decide) (by omega) u9000_ l0 y321 _ _ _ (fun k_ => (P0_ k_ ∨ w.heap.size ≤ k_) ∧ some k_ ≠ (.slice Ao32 y321.length co32 : Value).ownBlock) (fun _ => False) rfl rfl ?aO ?aR (fun _ _ h => h) (fun _ h => h.elim) ?aF ?aB ?aS ?aL ?_; (case aR => repeat (first | exact (Kd.R_reads' HO323.out).2.2 | (with_reducible refine Kd.C_alloc ?_ _) | (with_reducible refine Kd.C_drewN ?_ _) | (with_reducible refine Kd.C_drew ?_))); (case aB => exact (zB HB.out)); (case aF => exact (fun k_ hk => ⟨(.inr (Nat.le_trans (by first | exact HK.out.1 | exact (zkp HK : Kept w _ (fun k_ => P0_ k_)).1) hk)), Kd.fresh' (Kd.R_lt (zR HO323.out)) k_ hk⟩)); (case aO => exact (zR HO_0.out)); (case aS => exact (below_size (zB HB.out))); (case aL => have := LMc28.out; omega); intro v325 w31 ho hb hg hat; rw [← Ny324.out] at ho; replace HO323 := Aside0.mk (Kd.R_after (ok := (fun k_ => (P0_ k_ ∨ w.heap.size ≤ k_))) (zR (Kd.R_mono HO323.out (fun _ hk => ⟨hk.1.1, hk.2⟩))) hg hat); replace HB := Aside0.mk (hb); replace HK := Aside0.mk (Kept.of_grown (S := (fun k_ => P0_ k_)) hg (zkp HK) (fun k_ e_ => (HO_0.out.1 k_ e_).1)); have HO326 := Aside0.mk (ho); clear HO_0; clear ho hb hg hat))
  go_ret
  exact ⟨_, zX, by (with_reducible repeat (first | apply Kd.R_alloc | apply Kd.R_drewN | apply Kd.R_drew)); exact Kd.R_mono HO326.out (fun _ hk => hk.1), zB HB.out, by repeat (first | (with_reducible first | exact HK.out | apply Kept.alloc | apply Kept.drewN | apply Kept.drew) | exact HK.out)⟩
 rw [if_neg c28] at H
 exact absurd H (by simp)
end Go.Proofs.YtpdohioobbfncaaGreatDoor.PFnJpWildStop