/- what the Go functions that the law FnJpLength reaches compute, each as a plain function, with the proof that the Go code computes just that; no condition beside those that each theorem states. -/
import Derived.Test.YtmneeighbkcadaaDoorPFnJpLengthx0
import Derived.Test.YtmneeighbkcadaaDoorPFnJpLengthx6
import Derived.Test.YtmneeighbkcadaaDoorPFnJpLengthx10
import Derived.Test.YtmneeighbkcadaaDoorPFnJpLengthx11
namespace Go.Proofs.YtmneeighbkcadaaDoor.PFnJpLength
open Go.RowKit Go.Proofs.YtmneeighbkcadaaDoorW.PrintWords Go.Proofs.YtmneeighbkcadaaDoorW.PrintLast Go.Proofs.YtmneeighbkcadaaDoorW.PrintMore
set_option linter.unusedVariables false
set_option linter.unusedSimpArgs false
noncomputable def jI_.f (a0 : ByteArray) : Option (Bool) := if a0.toList = ([] : List UInt8) then (some false) else (if 0 < (a0.size : Int) then (some ((bt a0 0) == 91)) else (none))
set_option maxHeartbeats 8000000 in
set_option maxRecDepth 100000 in
theorem jI_.calls (a0 : ByteArray) (r : Bool) (w : World) (h : jI_.f a0 = some r) :
    Calls Tryd.prog 9 #[.string a0] w fun e w' => e = .returned (.bool r) ∧ Drawn0 w w' := by
 have H : (if a0.toList = ([] : List UInt8) then (some false) else (if 0 < (a0.size : Int) then (some ((bt a0 0) == 91)) else (none))) = some r := h
 clear h
 by_cases c2 : a0.toList = ([] : List UInt8)
 ·
  rw [if_pos c2] at H
  have c2b0 : (a0.toList == ([] : List UInt8)) = true := beq_iff_eq.mpr c2
  have c2b1 : (a0.toList != ([] : List UInt8)) = false := bne_eq_false_iff_eq.mpr c2
  clear c2
  obtain rfl := Option.some.inj H
  go_enter Tryd.func9, Tryd.ntmps9
  go_wp2
  go_ret
  exact ⟨by first | rfl | (simp; done) | (simp [nil_ne_, nil_eq_]; done) | (simp [*]; done), zD⟩
 rw [if_neg c2] at H
 have c2b0 : (a0.toList == ([] : List UInt8)) = false := beq_eq_false_iff_ne.mpr c2
 have c2b1 : (a0.toList != ([] : List UInt8)) = true := bne_iff_ne.mpr c2
 by_cases c3 : 0 < (a0.size : Int)
 ·
  rw [if_pos c3] at H
  have c3b0 : decide (0 < (a0.size : Int)) = true := decide_eq_true c3
  have c3b1 : decide (0 < a0.size) = true := decide_eq_true (by omega)
  clear c3
  obtain rfl := Option.some.inj H
  have p4 : 0 ≤ (0 : Int) := (by omega)
  have q4 : 0 < a0.size := (by have : (0 : Int) < (a0.size : Int) := dT; omega)
  have hx4 := bt_lit a0 0 0 rfl
  clear p4
  have qi4 : (0 < (a0.size : Int)) = True := eq_true (dT)
  replace q4 := eq_true q4
  go_enter Tryd.func9, Tryd.ntmps9
  go_wp2
  go_ret
  exact ⟨by first | rfl | (simp; done) | (simp [nil_ne_, nil_eq_]; done) | (simp [*]; done), zD⟩
 rw [if_neg c3] at H
 exact absurd H (by simp)
mutual
noncomputable def jF_.j0 : Nat → ByteArray → List ByteArray → Bool → Int → Int → Int → List (S43) → List (S27) → Option (Int × Int × Int × (List (S43)) × (List (S27)) × Bool)
  | 0, _, _, _, _, _, _, _, _ => none
  | k + 1, x0, x1, x23, x405000, x405001, x405002, x405003, x405004 => if x23 = true then (some (0, 0, 0, ([] : List (S43)), ([] : List (S27)), false)) else (jF_.l0 k x0 x1 (x1.length : Int) 0 x405000 x405001 x405002 x405003 x405004)
noncomputable def jF_.l0 : Nat → ByteArray → List ByteArray → Int → Int → Int → Int → Int → List (S43) → List (S27) → Option (Int × Int × Int × (List (S43)) × (List (S27)) × Bool)
  | 0, _, _, _, _, _, _, _, _, _ => none
  | k + 1, x0, x25, x26, x27, x405000, x405001, x405002, x405003, x405004 => if x27 < x26 then (if 0 ≤ x27 then (if x27 < (x25.length : Int) then (if x405000 = 6 then ((jI_.f (rdOf ByteArray.empty x25 x27)).bind fun t407 => (jF_.j2 k x0 (rdOf ByteArray.empty x25 x27) x25 x26 x27 t407 x405000 x405001 x405002 x405003 x405004)) else (jF_.j2 k x0 (rdOf ByteArray.empty x25 x27) x25 x26 x27 false x405000 x405001 x405002 x405003 x405004)) else (none)) else (none)) else (some (x405000, x405001, x405002, x405003, x405004, true))
noncomputable def jF_.j2 : Nat → ByteArray → ByteArray → List ByteArray → Int → Int → Bool → Int → Int → Int → List (S43) → List (S27) → Option (Int × Int × Int × (List (S43)) × (List (S27)) × Bool)
  | 0, _, _, _, _, _, _, _, _, _, _, _ => none
  | k + 1, x0, x9, x25, x26, x27, x37, x405000, x405001, x405002, x405003, x405004 => if x37 = true then (some (0, 0, 0, ([] : List (S43)), ([] : List (S27)), false)) else ((SS_.f k x0 x405000 x405001 x405002 x405003 x405004 x9).bind fun bt408 => (if bt408.2.2.2.2.2 = true then (jF_.l0 k x0 x25 x26 (wrap64 (x27 + 1)) bt408.1 bt408.2.1 bt408.2.2.1 bt408.2.2.2.1 bt408.2.2.2.2.1) else (some (0, 0, 0, ([] : List (S43)), ([] : List (S27)), false))))
end
noncomputable def jF_.f (k : Nat) (a0 : ByteArray) (l1 : List ByteArray) : Option (Int × Int × Int × (List (S43)) × (List (S27)) × Bool) := (jP_.f k a0).bind fun bt394 => (if bt394.2.2.2.2.2 = true then ((OO_.f k a0 bt394.1 bt394.2.1 bt394.2.2.1 bt394.2.2.2.1 bt394.2.2.2.2.1 l1).bind fun t405 => (jF_.j0 k a0 l1 (!t405) bt394.1 bt394.2.1 bt394.2.2.1 bt394.2.2.2.1 bt394.2.2.2.2.1)) else (jF_.j0 k a0 l1 true bt394.1 bt394.2.1 bt394.2.2.1 bt394.2.2.2.1 bt394.2.2.2.2.1))
set_option maxHeartbeats 8000000 in
set_option maxRecDepth 100000 in
theorem jF_.calls (k : Nat) (a0 : ByteArray) (A1 : Option Addr) (c1 : Nat) (l1 : List ByteArray) (r1 : Int) (r2 : Int) (r3 : Int) (r4 : List (S43)) (r5 : List (S27)) (r6 : Bool) (w : World) (hr1 : Kd.C Kd.string w A1 l1.length l1) (hc1 : l1.length ≤ c1) (h : jF_.f k a0 l1 = some (r1, r2, r3, r4, r5, r6)) :
    Calls Tryd.prog 5 #[.string a0, .slice A1 l1.length c1] w fun e w' => ∃ v3_ v4_ : Value, e = .returned (.tuple #[.agg #[.int .i64 r1, .int .i64 r2, .int .i64 r3, v3_, v4_], .bool r6]) ∧ Kd.V k43 43 w' w.heap.size (fun k_ => (w.heap.size ≤ k_)) v3_ r4 ∧ Kd.V k27 27 w' w.heap.size (fun k_ => (w.heap.size ≤ k_)) v4_ r5 ∧ Below w.heap.size w w' := by
 have hu27 := Tryd.underlying27
 have HR1 := Aside0.mk hr1
 have HC1 := Aside0.mk hc1
 clear hr1 hc1
 have HB := Aside0.mk (Below.refl w.heap.size w)
 have H : ((jP_.f k a0).bind fun bt394 => (if bt394.2.2.2.2.2 = true then ((OO_.f k a0 bt394.1 bt394.2.1 bt394.2.2.1 bt394.2.2.2.1 bt394.2.2.2.2.1 l1).bind fun t405 => (jF_.j0 k a0 l1 (!t405) bt394.1 bt394.2.1 bt394.2.2.1 bt394.2.2.2.1 bt394.2.2.2.2.1)) else (jF_.j0 k a0 l1 true bt394.1 bt394.2.1 bt394.2.2.1 bt394.2.2.2.1 bt394.2.2.2.2.1))) = some (r1, r2, r3, r4, r5, r6) := h
 clear h
 replace H := Option.bind_eq_some_iff.mp H
 obtain ⟨⟨t394, t395, t396, t397, t400, t403⟩, A30, H⟩ := H
 try dsimp only at H
 have A3 := Aside0.mk A30
 clear A30
 have HC4 := Aside0.mk H
 clear H
 go_enter Tryd.func5, Tryd.ntmps5
 go_upto_region 2 with (first | ((with_reducible refine gate_dst (N := 4) rfl ?_); refine box_event ?hg (N := 4) ?hd (cs := #[.int .i64 0, .int .i64 0, .int .i64 0, .slice none 0 0, .slice none 0 0]) (t := 27) ?hr ?_; (case hd => rfl); (case hg => rfl); (case hr => first | (go_simp; done) | (go_simp; rfl)); intro gb393 hg w5 hbox hb; have n0_ := Aside0.mk (below_step (zB HB.out) hb); have n1_ := Aside0.mk (hbox); have n2_ := Aside0.mk ((by rw [hg]; exact (below_size (zB HB.out)) : w.heap.size ≤ gb393)); have n3_ := Aside0.mk ((by rw [hg]; exact (below_size (zB HB.out)) : w.heap.size ≤ gb393)); clear HB; have HB := n0_; have BK393 := n1_; have GW393 := n2_; have GE393 := n3_; clear n0_ n1_ n2_ n3_; clear hb hbox hg) | ((with_reducible refine gate_callee (f := 7) rfl ?_); refine goesL_ (some 12) rfl rfl Tryd.func7 (by kernel_rfl) rfl #[.string a0] rfl zM ?_; (with_reducible refine (jP_.calls k a0 t394 t395 t396 t397 t400 t403 _ A3.out).mono ?_); rintro e w6 ⟨v398, v401, rfl, ho0, ho1, hb⟩; refine ⟨_, rfl, ?_⟩; have n0_ := Aside0.mk (Kd.R_lower (Kd.R_newM (M := fun k_ => (w.heap.size ≤ k_)) ho0 (below_size (zB HB.out)) (fun k_ h_ => h_)) (below_size (zB HB.out))); have n1_ := Aside0.mk (Kd.R_lower (Kd.R_newB (Kd.R_newM (M := fun k_ => (w.heap.size ≤ k_)) ho1 (below_size (zB HB.out)) (fun k_ h_ => h_)) (g := gb393) (o := .cells #[.int .i64 0, .int .i64 0, .int .i64 0, .slice none 0 0, .slice none 0 0] 27 (0, 0)) (by (repeat refine zb ?_); exact BK393.out)) (below_size (zB HB.out))); have n2_ := Aside0.mk (blk_below (g := gb393) (o := .cells #[.int .i64 0, .int .i64 0, .int .i64 0, .slice none 0 0, .slice none 0 0] 27 (0, 0)) (by (repeat refine zb ?_); exact BK393.out) hb); have n3_ := Aside0.mk (below_step (zB HB.out) hb); clear BK393 HB; have HO399 := n0_; have HO402 := n1_; have BK393 := n2_; have HB := n3_; clear n0_ n1_ n2_ n3_; clear hb; (try clear ho0); (try clear ho1)) | ((with_reducible refine gate_dst (N := 6) rfl ?_); refine box_event ?hg (N := 6) ?hd (cs := #[.int .i64 0, .int .i64 0, .int .i64 0, .slice none 0 0, .slice none 0 0]) (t := 27) ?hr ?_; (case hd => rfl); (case hg => rfl); (case hr => first | (go_simp; done) | (go_simp; rfl)); intro gb404 hg w7 hbox hb; have n0_ := Aside0.mk (Kd.R_below (zR HO399.out) hb); have n1_ := Aside0.mk (Kd.R_below (Kd.R_elderB (zR HO402.out) gb404 (Nat.le_of_eq hg.symm)) hb); have n2_ := Aside0.mk (blk_below (g := gb393) (o := .cells #[.int .i64 0, .int .i64 0, .int .i64 0, .slice none 0 0, .slice none 0 0] 27 (0, 0)) (by (repeat refine zb ?_); exact BK393.out) hb); have n3_ := Aside0.mk (below_step (zB HB.out) hb); have n4_ := Aside0.mk (hbox); have n5_ := Aside0.mk ((by rw [hg]; exact (below_size (zB HB.out)) : w.heap.size ≤ gb404)); have n6_ := Aside0.mk ((by rw [hg]; exact (below_size (zB HB.out)) : w.heap.size ≤ gb404)); have n7_ := Aside0.mk ((by rw [hg]; exact Nat.ne_of_lt (blk_lt (g := gb393) (o := .cells #[.int .i64 0, .int .i64 0, .int .i64 0, .slice none 0 0, .slice none 0 0] 27 (0, 0)) (by (repeat refine zb ?_); exact BK393.out)) : gb393 ≠ gb404)); have n8_ := Aside0.mk ((by rw [hg]; exact Nat.ne_of_gt (blk_lt (g := gb393) (o := .cells #[.int .i64 0, .int .i64 0, .int .i64 0, .slice none 0 0, .slice none 0 0] 27 (0, 0)) (by (repeat refine zb ?_); exact BK393.out)) : gb404 ≠ gb393)); clear HO399 HO402 BK393 HB; have HO399 := n0_; have HO402 := n1_; have BK393 := n2_; have HB := n3_; have BK404 := n4_; have GW404 := n5_; have GE404 := n6_; have NB393_404 := n7_; have NB404_393 := n8_; clear n0_ n1_ n2_ n3_ n4_ n5_ n6_ n7_ n8_; clear hb hbox hg; have hnb8 := NB404_393.out; have hnc8 := NB393_404.out; have hcz9_0 : w7.cell? ⟨gb404, 0, none⟩ = some (.int .i64 0) := (blk_cell BK404.out 0).trans rfl; have hcz9_1 : w7.cell? ⟨gb404, 1, none⟩ = some (.int .i64 0) := (blk_cell BK404.out 1).trans rfl; have hcz9_2 : w7.cell? ⟨gb404, 2, none⟩ = some (.int .i64 0) := (blk_cell BK404.out 2).trans rfl; have hcz9_3 : w7.cell? ⟨gb404, 3, none⟩ = some (.slice none 0 0) := (blk_cell BK404.out 3).trans rfl; have hcz9_4 : w7.cell? ⟨gb404, 4, none⟩ = some (.slice none 0 0) := (blk_cell BK404.out 4).trans rfl; have hfz9_0 := blk_frozen BK404.out 0; have hfz9_1 := blk_frozen BK404.out 1; have hfz9_2 := blk_frozen BK404.out 2; have hfz9_3 := blk_frozen BK404.out 3; have hfz9_4 := blk_frozen BK404.out 4; obtain ⟨Ao10, co10, eo10⟩ := Kd.R_slice HO399.out; subst eo10; obtain ⟨Ao11, co11, eo11⟩ := Kd.R_slice HO402.out; subst eo11) | ((with_reducible refine gate_store (t := 27) (p := 6) rfl ?_); refine store_event (t := 27) (p := 6) (v := ?vo_w12) (w1 := (((((w7.setCell ⟨gb404, 0, none⟩ (.int .i64 t394)).setCell ⟨gb404, 1, none⟩ (.int .i64 t395)).setCell ⟨gb404, 2, none⟩ (.int .i64 t396)).setCell ⟨gb404, 3, none⟩ (.slice Ao10 t397.length co10)).setCell ⟨gb404, 4, none⟩ (.slice Ao11 t400.length co11))) ?hg ?ho ?hn ?hr ?_; (case ho => rfl); (case hg => rfl); (case hn => rfl); (case hr => first | (go_simp; done) | (go_simp; rfl)); intro w12 hw; have n0_ : Aside0 (Kd.R k43 43 w12 w.heap.size (fun k_ => (w.heap.size ≤ k_)) (.slice Ao10 t397.length co10) t397) := ⟨(by rw [hw]; exact (zR (Kd.R_mono (Kd.R_far (p := ⟨gb404, 4, none⟩) (Kd.R_far (p := ⟨gb404, 3, none⟩) (Kd.R_far (p := ⟨gb404, 2, none⟩) (Kd.R_far (p := ⟨gb404, 1, none⟩) (Kd.R_far (p := ⟨gb404, 0, none⟩) (Kd.R_types HO399.out BK404.out (by decide)) (fun _ hk => hk.2) (.int .i64 t394)) (fun _ hk => hk.2) (.int .i64 t395)) (fun _ hk => hk.2) (.int .i64 t396)) (fun _ hk => hk.2) (.slice Ao10 t397.length co10)) (fun _ hk => hk.2) (.slice Ao11 t400.length co11)) (fun _ hk => hk.1.1))))⟩; have n1_ : Aside0 (Kd.R k27 27 w12 w.heap.size (fun k_ => (w.heap.size ≤ k_) ∧ some k_ ≠ (.slice Ao10 t397.length co10 : Value).ownBlock ∧ k_ ≠ gb393 ∧ k_ ≠ gb404) (.slice Ao11 t400.length co11) t400) := ⟨(by rw [hw]; exact (zR (Kd.R_mono (Kd.R_far (p := ⟨gb404, 4, none⟩) (Kd.R_far (p := ⟨gb404, 3, none⟩) (Kd.R_far (p := ⟨gb404, 2, none⟩) (Kd.R_far (p := ⟨gb404, 1, none⟩) (Kd.R_far (p := ⟨gb404, 0, none⟩) (Kd.R_mono HO402.out (fun k_ hk => (⟨hk, hk.2⟩ : _ ∧ k_ ≠ gb404))) (fun _ hk => hk.2) (.int .i64 t394)) (fun _ hk => hk.2) (.int .i64 t395)) (fun _ hk => hk.2) (.int .i64 t396)) (fun _ hk => hk.2) (.slice Ao10 t397.length co10)) (fun _ hk => hk.2) (.slice Ao11 t400.length co11)) (fun _ hk => ⟨hk.1.1.1.1, ⟨hk.1.1.1.2, ⟨hk.1.1.2, hk.1.2⟩⟩⟩))))⟩; have n2_ : Aside0 (w12.heap[gb393]? = some (.cells #[.int .i64 0, .int .i64 0, .int .i64 0, .slice none 0 0, .slice none 0 0] 27 (0, 0))) := ⟨(by rw [hw]; exact (by (repeat refine zb ?_); refine blk_far ?_ NB393_404.out _; (repeat refine zb ?_); refine blk_far ?_ NB393_404.out _; (repeat refine zb ?_); refine blk_far ?_ NB393_404.out _; (repeat refine zb ?_); refine blk_far ?_ NB393_404.out _; (repeat refine zb ?_); refine blk_far ?_ NB393_404.out _; (repeat refine zb ?_); exact BK393.out))⟩; have n3_ : Aside0 (w12.heap[gb404]? = some (.cells #[.int .i64 t394, .int .i64 t395, .int .i64 t396, .slice Ao10 t397.length co10, .slice Ao11 t400.length co11] 27 (0, 0))) := ⟨(by rw [hw]; exact (by (repeat refine zb ?_); refine blk_put (cs := #[.int .i64 t394, .int .i64 t395, .int .i64 t396, .slice Ao10 t397.length co10, .slice none 0 0]) ?_ 4 _ rfl; (repeat refine zb ?_); refine blk_put (cs := #[.int .i64 t394, .int .i64 t395, .int .i64 t396, .slice none 0 0, .slice none 0 0]) ?_ 3 _ rfl; (repeat refine zb ?_); refine blk_put (cs := #[.int .i64 t394, .int .i64 t395, .int .i64 0, .slice none 0 0, .slice none 0 0]) ?_ 2 _ rfl; (repeat refine zb ?_); refine blk_put (cs := #[.int .i64 t394, .int .i64 0, .int .i64 0, .slice none 0 0, .slice none 0 0]) ?_ 1 _ rfl; (repeat refine zb ?_); refine blk_put (cs := #[.int .i64 0, .int .i64 0, .int .i64 0, .slice none 0 0, .slice none 0 0]) ?_ 0 _ rfl; (repeat refine zb ?_); exact BK404.out))⟩; have n4_ : Aside0 (Below w.heap.size w w12) := ⟨(by rw [hw]; exact (zB HB.out))⟩; clear hw HO399 HO402 BK393 BK404 HB; have HO399 := n0_; have HO402 := n1_; have BK393 := n2_; have BK404 := n3_; have HB := n4_; clear n0_ n1_ n2_ n3_ n4_))
 (try simp only [Act.put, List.setIfInBounds_toArray, List.set_cons_zero, List.set_cons_succ])
 go_cut [23] (fun v23 wc => ∃ (kq : Nat) (x23_3 : Bool), v23 = .bool x23_3 ∧ Aside0 (jF_.j0 kq a0 l1 x23_3 t394 t395 t396 t397 t400 = some (r1, r2, r3, r4, r5, r6)) ∧ Aside0 (kq ≤ k) ∧ Aside0 (Kd.R k43 43 wc w.heap.size (fun k_ => (w.heap.size ≤ k_)) (.slice Ao10 t397.length co10) t397) ∧ Aside0 (Kd.R k27 27 wc w.heap.size (fun k_ => (w.heap.size ≤ k_) ∧ k_ ≠ gb393 ∧ k_ ≠ gb404) (.slice Ao11 t400.length co11) t400) ∧ Aside0 (wc.heap[gb393]? = some (.cells #[.int .i64 0, .int .i64 0, .int .i64 0, (.slice none 0 0), (.slice none 0 0)] 27 (0, 0))) ∧ Aside0 (wc.heap[gb404]? = some (.cells #[.int .i64 t394, .int .i64 t395, .int .i64 t396, (.slice Ao10 t397.length co10), (.slice Ao11 t400.length co11)] 27 (0, 0))) ∧ Aside0 (Below w.heap.size w wc))
 case first =>
  have H := HC4.out
  clear HC4
  by_cases c13 : t403 = true
  ·
   subst c13
   rw [if_pos rfl] at H
   replace H := Option.bind_eq_some_iff.mp H
   obtain ⟨t405, A140, H⟩ := H
   try dsimp only at H
   have A14 := Aside0.mk A140
   clear A140
   have H' := Aside0.mk H
   clear H
   have hnb15 := NB404_393.out
   have hnc15 := NB393_404.out
   have hcz16_0 : w12.cell? ⟨gb404, 0, none⟩ = some (.int .i64 t394) := (blk_cell BK404.out 0).trans rfl
   have hcz16_1 : w12.cell? ⟨gb404, 1, none⟩ = some (.int .i64 t395) := (blk_cell BK404.out 1).trans rfl
   have hcz16_2 : w12.cell? ⟨gb404, 2, none⟩ = some (.int .i64 t396) := (blk_cell BK404.out 2).trans rfl
   have hcz16_3 : w12.cell? ⟨gb404, 3, none⟩ = some (.slice Ao10 t397.length co10) := (blk_cell BK404.out 3).trans rfl
   have hcz16_4 : w12.cell? ⟨gb404, 4, none⟩ = some (.slice Ao11 t400.length co11) := (blk_cell BK404.out 4).trans rfl
   have hfz16_0 := blk_frozen BK404.out 0
   have hfz16_1 := blk_frozen BK404.out 1
   have hfz16_2 := blk_frozen BK404.out 2
   have hfz16_3 := blk_frozen BK404.out 3
   have hfz16_4 := blk_frozen BK404.out 4
   go_wp2_with (first | (go_at_call 8; (with_reducible refine (OO_.calls k a0 t394 t395 t396 (fun k_ => some k_ = (.slice Ao10 t397.length co10 : Value).ownBlock) _ _ t397 (fun k_ => ((w.heap.size ≤ k_) ∧ (some k_ ≠ (.slice Ao10 t397.length co10 : Value).ownBlock ∧ (k_ ≠ gb393 ∧ k_ ≠ gb404)))) _ _ t400 _ _ l1 t405 _ ?side1 ?side2 ?side3 ?side4 A14.out).mono ?_); (case side1 => exact Kd.R_V (Kd.R_tight rfl (Kd.R_types (Kd.R_types (Kd.R_apart' (HO399.out) (Kd.R_typed HO402.out) (by decide)) BK393.out (by decide)) BK404.out (by decide)))); (case side2 => exact Kd.R_V (HO402.out)); (case side3 => repeat (first | exact (Kd.C_below HR1.out HB.out) | (with_reducible refine Kd.C_alloc ?_ _) | (with_reducible refine Kd.C_drewN ?_ _) | (with_reducible refine Kd.C_drew ?_))); (case side4 => exact HC1.out); rintro e w17 ⟨rfl, hb⟩; have n0_ := Aside0.mk (Kd.R_below (zR HO399.out) hb); have n1_ := Aside0.mk (Kd.R_below (zR HO402.out) hb); have n2_ := Aside0.mk (blk_below (g := gb393) (o := .cells #[.int .i64 0, .int .i64 0, .int .i64 0, .slice none 0 0, .slice none 0 0] 27 (0, 0)) (by (repeat refine zb ?_); exact BK393.out) hb); have n3_ := Aside0.mk (blk_below (g := gb404) (o := .cells #[.int .i64 t394, .int .i64 t395, .int .i64 t396, .slice Ao10 t397.length co10, .slice Ao11 t400.length co11] 27 (0, 0)) (by (repeat refine zb ?_); exact BK404.out) hb); have n4_ := Aside0.mk (below_step (zB HB.out) hb); clear HO399 HO402 BK393 BK404 HB; have HO399 := n0_; have HO402 := n1_; have BK393 := n2_; have BK404 := n3_; have HB := n4_; clear n0_ n1_ n2_ n3_ n4_; clear hb))
   go_meet
   case rel => exact ⟨_, (!t405), zE, H', ⟨by first | omega | exact Nat.le_refl _⟩, ⟨by (with_reducible repeat (first | apply Kd.R_alloc | apply Kd.R_drewN | apply Kd.R_drew)); exact HO399.out⟩, ⟨by (with_reducible repeat (first | apply Kd.R_alloc | apply Kd.R_drewN | apply Kd.R_drew)); exact Kd.R_mono HO402.out (fun _ hk => ⟨hk.1, ⟨hk.2.2.1, hk.2.2.2⟩⟩)⟩, ⟨by (repeat refine zb ?_); exact BK393.out⟩, ⟨by (repeat refine zb ?_); exact BK404.out⟩, ⟨zB HB.out⟩⟩
  replace c13 := Bool.eq_false_iff.mpr c13
  subst c13
  rw [if_neg Bool.false_ne_true] at H
  have H' := Aside0.mk H
  clear H
  go_wp2
  go_meet
  case rel => exact ⟨_, (true), zE, H', ⟨by first | omega | exact Nat.le_refl _⟩, ⟨by (with_reducible repeat (first | apply Kd.R_alloc | apply Kd.R_drewN | apply Kd.R_drew)); exact HO399.out⟩, ⟨by (with_reducible repeat (first | apply Kd.R_alloc | apply Kd.R_drewN | apply Kd.R_drew)); exact Kd.R_mono HO402.out (fun _ hk => ⟨hk.1, ⟨hk.2.2.1, hk.2.2.2⟩⟩)⟩, ⟨by (repeat refine zb ?_); exact BK393.out⟩, ⟨by (repeat refine zb ?_); exact BK404.out⟩, ⟨zB HB.out⟩⟩
 clear HC4
 (try clear c1); (try clear hcz9_0); (try clear hcz9_1); (try clear hcz9_2); (try clear hcz9_3); (try clear hcz9_4); (try clear hfz9_0); (try clear hfz9_1); (try clear hfz9_2); (try clear hfz9_3); (try clear hfz9_4)
 obtain ⟨kq, x23_3, rfl, HA, HJ3, HO_405003, HO_405004, BK393, BK404, HB⟩ := hcut
 rcases kq with _ | kj3
 · exact absurd HA.out (by simp [jF_.j0])
 have H := HA.out
 clear HA
 simp only [jF_.j0] at H
 by_cases c18 : x23_3 = true
 ·
  subst c18
  rw [if_pos rfl] at H
  simp only [Option.some.injEq, Prod.mk.injEq] at H
  obtain ⟨rfl, rfl, rfl, rfl, rfl, rfl⟩ := H
  have hnb19 := NB393_404.out
  have hnc19 := NB404_393.out
  have hcz20_0 : wc.cell? ⟨gb393, 0, none⟩ = some (.int .i64 0) := (blk_cell BK393.out 0).trans rfl
  have hcz20_1 : wc.cell? ⟨gb393, 1, none⟩ = some (.int .i64 0) := (blk_cell BK393.out 1).trans rfl
  have hcz20_2 : wc.cell? ⟨gb393, 2, none⟩ = some (.int .i64 0) := (blk_cell BK393.out 2).trans rfl
  have hcz20_3 : wc.cell? ⟨gb393, 3, none⟩ = some (.slice none 0 0) := (blk_cell BK393.out 3).trans rfl
  have hcz20_4 : wc.cell? ⟨gb393, 4, none⟩ = some (.slice none 0 0) := (blk_cell BK393.out 4).trans rfl
  have hfz20_0 := blk_frozen BK393.out 0
  have hfz20_1 := blk_frozen BK393.out 1
  have hfz20_2 := blk_frozen BK393.out 2
  have hfz20_3 := blk_frozen BK393.out 3
  have hfz20_4 := blk_frozen BK393.out 4
  go_wp2_with (first | ((with_reducible refine gate_store (t := 27) (p := 4) rfl ?_); refine store_event (t := 27) (p := 4) (v := ?vo_w21) (w1 := (((((wc.setCell ⟨gb393, 0, none⟩ (.int .i64 0)).setCell ⟨gb393, 1, none⟩ (.int .i64 0)).setCell ⟨gb393, 2, none⟩ (.int .i64 0)).setCell ⟨gb393, 3, none⟩ (.slice none 0 0)).setCell ⟨gb393, 4, none⟩ (.slice none 0 0))) ?hg ?ho ?hn ?hr ?_; (case ho => rfl); (case hg => rfl); (case hn => rfl); (case hr => first | (go_simp; done) | (go_simp; rfl)); intro w21 hw; have n0_ : Aside0 (Kd.R k43 43 w21 w.heap.size (fun k_ => (w.heap.size ≤ k_)) (.slice Ao10 t397.length co10) t397) := ⟨(by rw [hw]; exact (zR (Kd.R_mono (Kd.R_far (p := ⟨gb393, 4, none⟩) (Kd.R_far (p := ⟨gb393, 3, none⟩) (Kd.R_far (p := ⟨gb393, 2, none⟩) (Kd.R_far (p := ⟨gb393, 1, none⟩) (Kd.R_far (p := ⟨gb393, 0, none⟩) (Kd.R_types HO_405003.out BK393.out (by decide)) (fun _ hk => hk.2) (.int .i64 0)) (fun _ hk => hk.2) (.int .i64 0)) (fun _ hk => hk.2) (.int .i64 0)) (fun _ hk => hk.2) (.slice none 0 0)) (fun _ hk => hk.2) (.slice none 0 0)) (fun _ hk => hk.1))))⟩; have n1_ : Aside0 (Kd.R k27 27 w21 w.heap.size (fun k_ => (w.heap.size ≤ k_) ∧ k_ ≠ gb393 ∧ k_ ≠ gb404) (.slice Ao11 t400.length co11) t400) := ⟨(by rw [hw]; exact (zR (Kd.R_mono (Kd.R_far (p := ⟨gb393, 4, none⟩) (Kd.R_far (p := ⟨gb393, 3, none⟩) (Kd.R_far (p := ⟨gb393, 2, none⟩) (Kd.R_far (p := ⟨gb393, 1, none⟩) (Kd.R_far (p := ⟨gb393, 0, none⟩) (Kd.R_mono HO_405004.out (fun k_ hk => (⟨hk, hk.2.1⟩ : _ ∧ k_ ≠ gb393))) (fun _ hk => hk.2) (.int .i64 0)) (fun _ hk => hk.2) (.int .i64 0)) (fun _ hk => hk.2) (.int .i64 0)) (fun _ hk => hk.2) (.slice none 0 0)) (fun _ hk => hk.2) (.slice none 0 0)) (fun _ hk => ⟨hk.1.1, ⟨hk.1.2.1, hk.1.2.2⟩⟩))))⟩; have n2_ : Aside0 (w21.heap[gb393]? = some (.cells #[.int .i64 0, .int .i64 0, .int .i64 0, .slice none 0 0, .slice none 0 0] 27 (0, 0))) := ⟨(by rw [hw]; exact (by (repeat refine zb ?_); refine blk_put (cs := #[.int .i64 0, .int .i64 0, .int .i64 0, .slice none 0 0, .slice none 0 0]) ?_ 4 _ rfl; (repeat refine zb ?_); refine blk_put (cs := #[.int .i64 0, .int .i64 0, .int .i64 0, .slice none 0 0, .slice none 0 0]) ?_ 3 _ rfl; (repeat refine zb ?_); refine blk_put (cs := #[.int .i64 0, .int .i64 0, .int .i64 0, .slice none 0 0, .slice none 0 0]) ?_ 2 _ rfl; (repeat refine zb ?_); refine blk_put (cs := #[.int .i64 0, .int .i64 0, .int .i64 0, .slice none 0 0, .slice none 0 0]) ?_ 1 _ rfl; (repeat refine zb ?_); refine blk_put (cs := #[.int .i64 0, .int .i64 0, .int .i64 0, .slice none 0 0, .slice none 0 0]) ?_ 0 _ rfl; (repeat refine zb ?_); exact BK393.out))⟩; have n3_ : Aside0 (w21.heap[gb404]? = some (.cells #[.int .i64 t394, .int .i64 t395, .int .i64 t396, .slice Ao10 t397.length co10, .slice Ao11 t400.length co11] 27 (0, 0))) := ⟨(by rw [hw]; exact (by (repeat refine zb ?_); refine blk_far ?_ NB404_393.out _; (repeat refine zb ?_); refine blk_far ?_ NB404_393.out _; (repeat refine zb ?_); refine blk_far ?_ NB404_393.out _; (repeat refine zb ?_); refine blk_far ?_ NB404_393.out _; (repeat refine zb ?_); refine blk_far ?_ NB404_393.out _; (repeat refine zb ?_); exact BK404.out))⟩; have n4_ : Aside0 (Below w.heap.size w w21) := ⟨(by rw [hw]; exact (zB HB.out))⟩; clear hw HO_405003 HO_405004 BK393 BK404 HB; have HO_405003 := n0_; have HO_405004 := n1_; have BK393 := n2_; have BK404 := n3_; have HB := n4_; clear n0_ n1_ n2_ n3_ n4_))
  refine bodyPost_ret (results_ct rfl _ _ gb393 27 #[.int .i64 0, .int .i64 0, .int .i64 0, .slice none 0 0, .slice none 0 0] (0, 0) _ rfl (by (repeat refine zb ?_); exact BK393.out) Tryd.underlying27 rfl (by kernel_rfl)) rfl ?_
  exact ⟨_, _, zX, Kd.V_nil _ _ _ _ _, Kd.V_nil _ _ _ _ _, zB HB.out⟩
 replace c18 := Bool.eq_false_iff.mpr c18
 subst c18
 rw [if_neg Bool.false_ne_true] at H
 have H' := Aside0.mk H
 clear H
 go_wp2
 try simp only [Act.put, List.setIfInBounds_toArray, List.set_cons_succ, List.set_cons_zero]
 go_loopg [27] kj3 (fun kq v27 w' => ∃ (x27_2 : Int) (x394000_2 : Int) (x394001_2 : Int) (x394002_2 : Int) (x405000_2 : Int) (x405001_2 : Int) (x405002_2 : Int) (x405003_2 : List (S43)) (x405004_2 : List (S27)) (u405003 : Value) (u405004 : Value), v27 = .int .i64 x27_2 ∧ Aside0 (jF_.l0 kq a0 l1 (l1.length : Int) x27_2 x405000_2 x405001_2 x405002_2 x405003_2 x405004_2 = some (r1, r2, r3, r4, r5, r6)) ∧ Aside0 (kq ≤ kj3) ∧ Aside0 (Kd.V k43 43 w' w.heap.size (fun k_ => (w.heap.size ≤ k_) ∧ k_ ≠ gb393 ∧ k_ ≠ gb404) u405003 x405003_2) ∧ Aside0 (Kd.V k27 27 w' w.heap.size (fun k_ => (w.heap.size ≤ k_) ∧ k_ ≠ gb393 ∧ k_ ≠ gb404) u405004 x405004_2) ∧ Aside0 (w'.heap[gb393]? = some (.cells #[.int .i64 x394000_2, .int .i64 x394001_2, .int .i64 x394002_2, (.slice none 0 0), (.slice none 0 0)] 27 (0, 0))) ∧ Aside0 (w'.heap[gb404]? = some (.cells #[.int .i64 x405000_2, .int .i64 x405001_2, .int .i64 x405002_2, u405003, u405004] 27 (0, 0))) ∧ Aside0 (Below w.heap.size w w'))
 case atStart => exact ⟨(0), (0), (0), (0), (t394), (t395), (t396), (t397), (t400), (.slice Ao10 t397.length co10), (.slice Ao11 t400.length co11), zE, H', ⟨Nat.le_refl _⟩, ⟨Kd.R_V (zR (Kd.R_mono (Kd.R_types (Kd.R_types HO_405003.out BK393.out (by decide)) BK404.out (by decide)) (fun _ hk => ⟨hk.1.1, ⟨hk.1.2, hk.2⟩⟩)))⟩, ⟨Kd.R_V (zR HO_405004.out)⟩, ⟨by (repeat refine zb ?_); exact BK393.out⟩, ⟨by (repeat refine zb ?_); exact BK404.out⟩, ⟨zB HB.out⟩⟩
 case round =>
  clear H'
  (try clear c1); (try clear c18); (try clear hcz9_0); (try clear hcz9_1); (try clear hcz9_2); (try clear hcz9_3); (try clear hcz9_4); (try clear hfz9_0); (try clear hfz9_1); (try clear hfz9_2); (try clear hfz9_3); (try clear hfz9_4)
  obtain ⟨x27_2, x394000_2, x394001_2, x394002_2, x405000_2, x405001_2, x405002_2, x405003_2, x405004_2, u405003, u405004, rfl, HA, HK2, HO_405003, HO_405004, BK393, BK404, HB⟩ := hrel
  rcases gk with _ | k2
  · exact absurd HA.out (by simp [jF_.l0])
  have H := HA.out
  clear HA
  simp only [jF_.l0] at H
  by_cases c22 : x27_2 < (l1.length : Int)
  ·
   rw [if_pos c22] at H
   have c22b0 : decide (x27_2 < (l1.length : Int)) = true := decide_eq_true c22
   clear c22
   by_cases c23 : 0 ≤ x27_2
   ·
    rw [if_pos c23] at H
    have c23b0 : decide (0 ≤ x27_2) = true := decide_eq_true c23
    clear c23
    by_cases c24 : x27_2 < (l1.length : Int)
    ·
     rw [if_pos c24] at H
     have c24b0 : decide (x27_2 < (l1.length : Int)) = true := decide_eq_true c24
     clear c24
     have HC25 := Aside0.mk H
     clear H
     have p406 : 0 ≤ (x27_2 : Int) := dT
     have q406 : x27_2 < (l1.length : Int) := dT
     obtain ⟨ad406, e406, hx406_0⟩ := Kd.at_string HR1.out x27_2 p406 q406
     cases e406
     replace hx406_0 := zH HB.out hx406_0
     replace p406 := eq_true p406
     replace q406 := eq_true q406
     go_upto_region 7 with (fail)
     go_cut [37] (fun v37 wc => ∃ (kq : Nat) (x37_24 : Bool), v37 = .bool x37_24 ∧ Aside0 (jF_.j2 kq a0 (rdOf ByteArray.empty l1 x27_2) l1 (l1.length : Int) x27_2 x37_24 x405000_2 x405001_2 x405002_2 x405003_2 x405004_2 = some (r1, r2, r3, r4, r5, r6)) ∧ Aside0 (kq ≤ k2) ∧ Aside0 (Kd.V k43 43 wc w.heap.size (fun k_ => (w.heap.size ≤ k_) ∧ k_ ≠ gb393 ∧ k_ ≠ gb404) u405003 x405003_2) ∧ Aside0 (Kd.V k27 27 wc w.heap.size (fun k_ => (w.heap.size ≤ k_) ∧ k_ ≠ gb393 ∧ k_ ≠ gb404) u405004 x405004_2) ∧ Aside0 (wc.heap[gb393]? = some (.cells #[.int .i64 x394000_2, .int .i64 x394001_2, .int .i64 x394002_2, (.slice none 0 0), (.slice none 0 0)] 27 (0, 0))) ∧ Aside0 (wc.heap[gb404]? = some (.cells #[.int .i64 x405000_2, .int .i64 x405001_2, .int .i64 x405002_2, u405003, u405004] 27 (0, 0))) ∧ Aside0 (Below w.heap.size w wc))
     case first =>
      have H := HC25.out
      clear HC25
      by_cases c26 : x405000_2 = 6
      ·
       rw [if_pos c26] at H
       have c26b0 : (x405000_2 == 6) = true := beq_iff_eq.mpr c26
       have c26b1 : (x405000_2 != 6) = false := bne_eq_false_iff_eq.mpr c26
       clear c26
       (first | rw [c26b0] | (simp only [i64_w, i32_w]; rw [c26b0]) | rw [c26b1] | skip)
       replace H := Option.bind_eq_some_iff.mp H
       obtain ⟨t407, A270, H⟩ := H
       try dsimp only at H
       have A27 := Aside0.mk A270
       clear A270
       have H' := Aside0.mk H
       clear H
       have hnb28 := NB404_393.out
       have hnc28 := NB393_404.out
       have hcz29_0 : wr.cell? ⟨gb404, 0, none⟩ = some (.int .i64 x405000_2) := (blk_cell BK404.out 0).trans rfl
       have hcz29_1 : wr.cell? ⟨gb404, 1, none⟩ = some (.int .i64 x405001_2) := (blk_cell BK404.out 1).trans rfl
       have hcz29_2 : wr.cell? ⟨gb404, 2, none⟩ = some (.int .i64 x405002_2) := (blk_cell BK404.out 2).trans rfl
       have hcz29_3 : wr.cell? ⟨gb404, 3, none⟩ = some (u405003) := (blk_cell BK404.out 3).trans rfl
       have hcz29_4 : wr.cell? ⟨gb404, 4, none⟩ = some (u405004) := (blk_cell BK404.out 4).trans rfl
       have hfz29_0 := blk_frozen BK404.out 0
       have hfz29_1 := blk_frozen BK404.out 1
       have hfz29_2 := blk_frozen BK404.out 2
       have hfz29_3 := blk_frozen BK404.out 3
       have hfz29_4 := blk_frozen BK404.out 4
       go_wp2_with (first | (go_at_call 9; (with_reducible refine (jI_.calls (rdOf ByteArray.empty l1 x27_2) t407 _ A27.out).mono ?_); rintro e w' ⟨rfl, ⟨nd, rfl⟩⟩))
       go_meet
       case rel => exact ⟨_, (t407), zE, H', ⟨by have := HJ3.out; have := HK2.out; first | omega | exact Nat.le_refl _⟩, ⟨by (with_reducible repeat (first | apply Kd.V_alloc | apply Kd.V_drewN | apply Kd.V_drew)); exact HO_405003.out⟩, ⟨by (with_reducible repeat (first | apply Kd.V_alloc | apply Kd.V_drewN | apply Kd.V_drew)); exact HO_405004.out⟩, ⟨by (repeat refine zb ?_); exact BK393.out⟩, ⟨by (repeat refine zb ?_); exact BK404.out⟩, ⟨zB HB.out⟩⟩
      rw [if_neg c26] at H
      have c26b0 : (x405000_2 == 6) = false := beq_eq_false_iff_ne.mpr c26
      have c26b1 : (x405000_2 != 6) = true := bne_iff_ne.mpr c26
      (first | rw [c26b0] | (simp only [i64_w, i32_w]; rw [c26b0]) | rw [c26b1] | skip)
      have H' := Aside0.mk H
      clear H
      have hnb30 := NB404_393.out
      have hnc30 := NB393_404.out
      have hcz31_0 : wr.cell? ⟨gb404, 0, none⟩ = some (.int .i64 x405000_2) := (blk_cell BK404.out 0).trans rfl
      have hcz31_1 : wr.cell? ⟨gb404, 1, none⟩ = some (.int .i64 x405001_2) := (blk_cell BK404.out 1).trans rfl
      have hcz31_2 : wr.cell? ⟨gb404, 2, none⟩ = some (.int .i64 x405002_2) := (blk_cell BK404.out 2).trans rfl
      have hcz31_3 : wr.cell? ⟨gb404, 3, none⟩ = some (u405003) := (blk_cell BK404.out 3).trans rfl
      have hcz31_4 : wr.cell? ⟨gb404, 4, none⟩ = some (u405004) := (blk_cell BK404.out 4).trans rfl
      have hfz31_0 := blk_frozen BK404.out 0
      have hfz31_1 := blk_frozen BK404.out 1
      have hfz31_2 := blk_frozen BK404.out 2
      have hfz31_3 := blk_frozen BK404.out 3
      have hfz31_4 := blk_frozen BK404.out 4
      go_wp2
      go_meet
      case rel => exact ⟨_, (false), zE, H', ⟨by have := HJ3.out; have := HK2.out; first | omega | exact Nat.le_refl _⟩, ⟨by (with_reducible repeat (first | apply Kd.V_alloc | apply Kd.V_drewN | apply Kd.V_drew)); exact HO_405003.out⟩, ⟨by (with_reducible repeat (first | apply Kd.V_alloc | apply Kd.V_drewN | apply Kd.V_drew)); exact HO_405004.out⟩, ⟨by (repeat refine zb ?_); exact BK393.out⟩, ⟨by (repeat refine zb ?_); exact BK404.out⟩, ⟨zB HB.out⟩⟩
     clear HC25
     (try clear c1); (try clear c18); (try clear c22b0); (try clear c23b0); (try clear c24b0); (try clear hcz9_0); (try clear hcz9_1); (try clear hcz9_2); (try clear hcz9_3); (try clear hcz9_4); (try clear hfz9_0); (try clear hfz9_1); (try clear hfz9_2); (try clear hfz9_3); (try clear hfz9_4); (try clear hx406_0); (try clear p406); (try clear q406)
     obtain ⟨kq, x37_24, rfl, HA, HJ24, HO_405003, HO_405004, BK393, BK404, HB⟩ := hcut
     rcases kq with _ | kj24
     · exact absurd HA.out (by simp [jF_.j2])
     have H := HA.out
     clear HA
     simp only [jF_.j2] at H
     by_cases c32 : x37_24 = true
     ·
      subst c32
      rw [if_pos rfl] at H
      simp only [Option.some.injEq, Prod.mk.injEq] at H
      obtain ⟨rfl, rfl, rfl, rfl, rfl, rfl⟩ := H
      have hnb33 := NB393_404.out
      have hnc33 := NB404_393.out
      have hcz34_0 : wc.cell? ⟨gb393, 0, none⟩ = some (.int .i64 x394000_2) := (blk_cell BK393.out 0).trans rfl
      have hcz34_1 : wc.cell? ⟨gb393, 1, none⟩ = some (.int .i64 x394001_2) := (blk_cell BK393.out 1).trans rfl
      have hcz34_2 : wc.cell? ⟨gb393, 2, none⟩ = some (.int .i64 x394002_2) := (blk_cell BK393.out 2).trans rfl
      have hcz34_3 : wc.cell? ⟨gb393, 3, none⟩ = some (.slice none 0 0) := (blk_cell BK393.out 3).trans rfl
      have hcz34_4 : wc.cell? ⟨gb393, 4, none⟩ = some (.slice none 0 0) := (blk_cell BK393.out 4).trans rfl
      have hfz34_0 := blk_frozen BK393.out 0
      have hfz34_1 := blk_frozen BK393.out 1
      have hfz34_2 := blk_frozen BK393.out 2
      have hfz34_3 := blk_frozen BK393.out 3
      have hfz34_4 := blk_frozen BK393.out 4
      go_wp2_with (first | ((with_reducible refine gate_store (t := 27) (p := 4) rfl ?_); refine store_event (t := 27) (p := 4) (v := ?vo_w35) (w1 := (((((wc.setCell ⟨gb393, 0, none⟩ (.int .i64 0)).setCell ⟨gb393, 1, none⟩ (.int .i64 0)).setCell ⟨gb393, 2, none⟩ (.int .i64 0)).setCell ⟨gb393, 3, none⟩ (.slice none 0 0)).setCell ⟨gb393, 4, none⟩ (.slice none 0 0))) ?hg ?ho ?hn ?hr ?_; (case ho => rfl); (case hg => rfl); (case hn => rfl); (case hr => first | (go_simp; done) | (go_simp; rfl)); intro w35 hw; have n0_ : Aside0 (Kd.V k43 43 w35 w.heap.size (fun k_ => (w.heap.size ≤ k_) ∧ k_ ≠ gb393 ∧ k_ ≠ gb404) u405003 x405003_2) := ⟨(by rw [hw]; exact (zV (Kd.V_mono (Kd.V_far (p := ⟨gb393, 4, none⟩) (Kd.V_far (p := ⟨gb393, 3, none⟩) (Kd.V_far (p := ⟨gb393, 2, none⟩) (Kd.V_far (p := ⟨gb393, 1, none⟩) (Kd.V_far (p := ⟨gb393, 0, none⟩) (Kd.V_mono HO_405003.out (fun k_ hk => (⟨hk, hk.2.1⟩ : _ ∧ k_ ≠ gb393))) (fun _ hk => hk.2) (.int .i64 0)) (fun _ hk => hk.2) (.int .i64 0)) (fun _ hk => hk.2) (.int .i64 0)) (fun _ hk => hk.2) (.slice none 0 0)) (fun _ hk => hk.2) (.slice none 0 0)) (fun _ hk => ⟨hk.1.1, ⟨hk.1.2.1, hk.1.2.2⟩⟩))))⟩; have n1_ : Aside0 (Kd.V k27 27 w35 w.heap.size (fun k_ => (w.heap.size ≤ k_) ∧ k_ ≠ gb393 ∧ k_ ≠ gb404) u405004 x405004_2) := ⟨(by rw [hw]; exact (zV (Kd.V_mono (Kd.V_far (p := ⟨gb393, 4, none⟩) (Kd.V_far (p := ⟨gb393, 3, none⟩) (Kd.V_far (p := ⟨gb393, 2, none⟩) (Kd.V_far (p := ⟨gb393, 1, none⟩) (Kd.V_far (p := ⟨gb393, 0, none⟩) (Kd.V_mono HO_405004.out (fun k_ hk => (⟨hk, hk.2.1⟩ : _ ∧ k_ ≠ gb393))) (fun _ hk => hk.2) (.int .i64 0)) (fun _ hk => hk.2) (.int .i64 0)) (fun _ hk => hk.2) (.int .i64 0)) (fun _ hk => hk.2) (.slice none 0 0)) (fun _ hk => hk.2) (.slice none 0 0)) (fun _ hk => ⟨hk.1.1, ⟨hk.1.2.1, hk.1.2.2⟩⟩))))⟩; have n2_ : Aside0 (w35.heap[gb393]? = some (.cells #[.int .i64 0, .int .i64 0, .int .i64 0, .slice none 0 0, .slice none 0 0] 27 (0, 0))) := ⟨(by rw [hw]; exact (by (repeat refine zb ?_); refine blk_put (cs := #[.int .i64 0, .int .i64 0, .int .i64 0, .slice none 0 0, .slice none 0 0]) ?_ 4 _ rfl; (repeat refine zb ?_); refine blk_put (cs := #[.int .i64 0, .int .i64 0, .int .i64 0, .slice none 0 0, .slice none 0 0]) ?_ 3 _ rfl; (repeat refine zb ?_); refine blk_put (cs := #[.int .i64 0, .int .i64 0, .int .i64 x394002_2, .slice none 0 0, .slice none 0 0]) ?_ 2 _ rfl; (repeat refine zb ?_); refine blk_put (cs := #[.int .i64 0, .int .i64 x394001_2, .int .i64 x394002_2, .slice none 0 0, .slice none 0 0]) ?_ 1 _ rfl; (repeat refine zb ?_); refine blk_put (cs := #[.int .i64 x394000_2, .int .i64 x394001_2, .int .i64 x394002_2, .slice none 0 0, .slice none 0 0]) ?_ 0 _ rfl; (repeat refine zb ?_); exact BK393.out))⟩; have n3_ : Aside0 (w35.heap[gb404]? = some (.cells #[.int .i64 x405000_2, .int .i64 x405001_2, .int .i64 x405002_2, u405003, u405004] 27 (0, 0))) := ⟨(by rw [hw]; exact (by (repeat refine zb ?_); refine blk_far ?_ NB404_393.out _; (repeat refine zb ?_); refine blk_far ?_ NB404_393.out _; (repeat refine zb ?_); refine blk_far ?_ NB404_393.out _; (repeat refine zb ?_); refine blk_far ?_ NB404_393.out _; (repeat refine zb ?_); refine blk_far ?_ NB404_393.out _; (repeat refine zb ?_); exact BK404.out))⟩; have n4_ : Aside0 (Below w.heap.size w w35) := ⟨(by rw [hw]; exact (zB HB.out))⟩; clear hw HO_405003 HO_405004 BK393 BK404 HB; have HO_405003 := n0_; have HO_405004 := n1_; have BK393 := n2_; have BK404 := n3_; have HB := n4_; clear n0_ n1_ n2_ n3_ n4_))
      refine bodyPost_ret (results_ct rfl _ _ gb393 27 #[.int .i64 0, .int .i64 0, .int .i64 0, .slice none 0 0, .slice none 0 0] (0, 0) _ rfl (by (repeat refine zb ?_); exact BK393.out) Tryd.underlying27 rfl (by kernel_rfl)) rfl ?_
      exact ⟨_, _, zX, Kd.V_nil _ _ _ _ _, Kd.V_nil _ _ _ _ _, zB HB.out⟩
     replace c32 := Bool.eq_false_iff.mpr c32
     subst c32
     rw [if_neg Bool.false_ne_true] at H
     replace H := Option.bind_eq_some_iff.mp H
     obtain ⟨⟨t408, t409, t410, t411, t414, t417⟩, A360, H⟩ := H
     try dsimp only at H
     have A36 := Aside0.mk A360
     clear A360
     by_cases c37 : t417 = true
     ·
      subst c37
      rw [if_pos rfl] at H
      have H' := Aside0.mk H
      clear H
      have hnb38 := NB404_393.out
      have hnc38 := NB393_404.out
      have hcz39_0 : wc.cell? ⟨gb404, 0, none⟩ = some (.int .i64 x405000_2) := (blk_cell BK404.out 0).trans rfl
      have hcz39_1 : wc.cell? ⟨gb404, 1, none⟩ = some (.int .i64 x405001_2) := (blk_cell BK404.out 1).trans rfl
      have hcz39_2 : wc.cell? ⟨gb404, 2, none⟩ = some (.int .i64 x405002_2) := (blk_cell BK404.out 2).trans rfl
      have hcz39_3 : wc.cell? ⟨gb404, 3, none⟩ = some (u405003) := (blk_cell BK404.out 3).trans rfl
      have hcz39_4 : wc.cell? ⟨gb404, 4, none⟩ = some (u405004) := (blk_cell BK404.out 4).trans rfl
      have hfz39_0 := blk_frozen BK404.out 0
      have hfz39_1 := blk_frozen BK404.out 1
      have hfz39_2 := blk_frozen BK404.out 2
      have hfz39_3 := blk_frozen BK404.out 3
      have hfz39_4 := blk_frozen BK404.out 4
      obtain ⟨Ao40, co40, eo40⟩ := Kd.V_slice HO_405003.out
      subst eo40
      obtain ⟨Ao41, co41, eo41⟩ := Kd.V_slice HO_405004.out
      subst eo41
      go_wp2_with (first | ((with_reducible refine gate_callee (f := 10) rfl ?_); refine goesL_ (some 43) rfl rfl Tryd.func10 (by kernel_rfl) rfl #[.string a0, .agg #[.int .i64 x405000_2, .int .i64 x405001_2, .int .i64 x405002_2, .slice Ao40 x405003_2.length co40, .slice Ao41 x405004_2.length co41], .string (rdOf ByteArray.empty l1 x27_2)] rfl zM ?_; (with_reducible refine (SS_.calls kj24 a0 x405000_2 x405001_2 x405002_2 _ _ x405003_2 (fun k_ => ((w.heap.size ≤ k_) ∧ (k_ ≠ gb393 ∧ k_ ≠ gb404))) _ _ x405004_2 (rdOf ByteArray.empty l1 x27_2) t408 t409 t410 t411 t414 true _ ?side1 ?side2 ?side3 A36.out).mono ?_); (case side1 => repeat (first | exact (Kd.V_reads' HO_405003.out).2.2 | (with_reducible refine Kd.C_alloc ?_ _) | (with_reducible refine Kd.C_drewN ?_ _) | (with_reducible refine Kd.C_drew ?_))); (case side2 => exact (Kd.V_reads' HO_405003.out).2.1); (case side3 => exact HO_405004.out); rintro e w42 ⟨v412, v415, rfl, ho0, ho1, hb⟩; refine ⟨_, rfl, ?_⟩; have n0_ := Aside0.mk (Kd.V_below (zV HO_405003.out) hb); have n1_ := Aside0.mk (Kd.V_below (zV HO_405004.out) hb); have n2_ := Aside0.mk (Kd.V_lower (Kd.V_mono (ok' := fun k_ => (w.heap.size ≤ k_) ∧ k_ ≠ gb393 ∧ k_ ≠ gb404) ho0 (fun k_ hk_ => ⟨Or.elim hk_ (fun hs_ => hs_.1) (fun hn_ => (Nat.le_trans (below_size (zB HB.out)) hn_)), Or.elim hk_ (fun hs_ => hs_.2.1) (fun hn_ => (Kd.freshB (g := gb393) (o := .cells #[.int .i64 x394000_2, .int .i64 x394001_2, .int .i64 x394002_2, .slice none 0 0, .slice none 0 0] 27 (0, 0)) (by (repeat refine zb ?_); exact BK393.out) k_ hn_)), Or.elim hk_ (fun hs_ => hs_.2.2) (fun hn_ => (Kd.freshB (g := gb404) (o := .cells #[.int .i64 x405000_2, .int .i64 x405001_2, .int .i64 x405002_2, .slice Ao40 x405003_2.length co40, .slice Ao41 x405004_2.length co41] 27 (0, 0)) (by (repeat refine zb ?_); exact BK404.out) k_ hn_))⟩)) (below_size (zB HB.out))); have n3_ := Aside0.mk (Kd.V_lower (Kd.V_mono (ok' := fun k_ => (w.heap.size ≤ k_) ∧ k_ ≠ gb393 ∧ k_ ≠ gb404) ho1 (fun k_ hk_ => ⟨Or.elim hk_ (fun hs_ => hs_.1) (fun hn_ => (Nat.le_trans (below_size (zB HB.out)) hn_)), Or.elim hk_ (fun hs_ => hs_.2.1) (fun hn_ => (Kd.freshB (g := gb393) (o := .cells #[.int .i64 x394000_2, .int .i64 x394001_2, .int .i64 x394002_2, .slice none 0 0, .slice none 0 0] 27 (0, 0)) (by (repeat refine zb ?_); exact BK393.out) k_ hn_)), Or.elim hk_ (fun hs_ => hs_.2.2) (fun hn_ => (Kd.freshB (g := gb404) (o := .cells #[.int .i64 x405000_2, .int .i64 x405001_2, .int .i64 x405002_2, .slice Ao40 x405003_2.length co40, .slice Ao41 x405004_2.length co41] 27 (0, 0)) (by (repeat refine zb ?_); exact BK404.out) k_ hn_))⟩)) (below_size (zB HB.out))); have n4_ := Aside0.mk (blk_below (g := gb393) (o := .cells #[.int .i64 x394000_2, .int .i64 x394001_2, .int .i64 x394002_2, .slice none 0 0, .slice none 0 0] 27 (0, 0)) (by (repeat refine zb ?_); exact BK393.out) hb); have n5_ := Aside0.mk (blk_below (g := gb404) (o := .cells #[.int .i64 x405000_2, .int .i64 x405001_2, .int .i64 x405002_2, .slice Ao40 x405003_2.length co40, .slice Ao41 x405004_2.length co41] 27 (0, 0)) (by (repeat refine zb ?_); exact BK404.out) hb); have n6_ := Aside0.mk (below_step (zB HB.out) hb); clear HO_405003 HO_405004 BK393 BK404 HB; have HO_405003 := n0_; have HO_405004 := n1_; have HO413 := n2_; have HO416 := n3_; have BK393 := n4_; have BK404 := n5_; have HB := n6_; clear n0_ n1_ n2_ n3_ n4_ n5_ n6_; clear hb; (try clear ho0); (try clear ho1); have hcz43_0 : w42.cell? ⟨gb404, 0, none⟩ = some (.int .i64 x405000_2) := (blk_cell BK404.out 0).trans rfl; have hcz43_1 : w42.cell? ⟨gb404, 1, none⟩ = some (.int .i64 x405001_2) := (blk_cell BK404.out 1).trans rfl; have hcz43_2 : w42.cell? ⟨gb404, 2, none⟩ = some (.int .i64 x405002_2) := (blk_cell BK404.out 2).trans rfl; have hcz43_3 : w42.cell? ⟨gb404, 3, none⟩ = some (.slice Ao40 x405003_2.length co40) := (blk_cell BK404.out 3).trans rfl; have hcz43_4 : w42.cell? ⟨gb404, 4, none⟩ = some (.slice Ao41 x405004_2.length co41) := (blk_cell BK404.out 4).trans rfl; have hfz43_0 := blk_frozen BK404.out 0; have hfz43_1 := blk_frozen BK404.out 1; have hfz43_2 := blk_frozen BK404.out 2; have hfz43_3 := blk_frozen BK404.out 3; have hfz43_4 := blk_frozen BK404.out 4; obtain ⟨Ao44, co44, eo44⟩ := Kd.V_slice HO413.out; subst eo44; obtain ⟨Ao45, co45, eo45⟩ := Kd.V_slice HO416.out; subst eo45) | ((with_reducible refine gate_store (t := 27) (p := 6) rfl ?_); refine store_event (t := 27) (p := 6) (v := ?vo_w46) (w1 := (((((w42.setCell ⟨gb404, 0, none⟩ (.int .i64 t408)).setCell ⟨gb404, 1, none⟩ (.int .i64 t409)).setCell ⟨gb404, 2, none⟩ (.int .i64 t410)).setCell ⟨gb404, 3, none⟩ (.slice Ao44 t411.length co44)).setCell ⟨gb404, 4, none⟩ (.slice Ao45 t414.length co45))) ?hg ?ho ?hn ?hr ?_; (case ho => rfl); (case hg => rfl); (case hn => rfl); (case hr => first | (go_simp; done) | (go_simp; rfl)); intro w46 hw; have n0_ : Aside0 (Kd.V k43 43 w46 w.heap.size (fun k_ => (w.heap.size ≤ k_) ∧ k_ ≠ gb393 ∧ k_ ≠ gb404) (.slice Ao40 x405003_2.length co40) x405003_2) := ⟨(by rw [hw]; exact (zV (Kd.V_mono (Kd.V_far (p := ⟨gb404, 4, none⟩) (Kd.V_far (p := ⟨gb404, 3, none⟩) (Kd.V_far (p := ⟨gb404, 2, none⟩) (Kd.V_far (p := ⟨gb404, 1, none⟩) (Kd.V_far (p := ⟨gb404, 0, none⟩) (Kd.V_mono HO_405003.out (fun k_ hk => (⟨hk, hk.2.2⟩ : _ ∧ k_ ≠ gb404))) (fun _ hk => hk.2) (.int .i64 t408)) (fun _ hk => hk.2) (.int .i64 t409)) (fun _ hk => hk.2) (.int .i64 t410)) (fun _ hk => hk.2) (.slice Ao44 t411.length co44)) (fun _ hk => hk.2) (.slice Ao45 t414.length co45)) (fun _ hk => ⟨hk.1.1, ⟨hk.1.2.1, hk.1.2.2⟩⟩))))⟩; have n1_ : Aside0 (Kd.V k27 27 w46 w.heap.size (fun k_ => (w.heap.size ≤ k_) ∧ k_ ≠ gb393 ∧ k_ ≠ gb404) (.slice Ao41 x405004_2.length co41) x405004_2) := ⟨(by rw [hw]; exact (zV (Kd.V_mono (Kd.V_far (p := ⟨gb404, 4, none⟩) (Kd.V_far (p := ⟨gb404, 3, none⟩) (Kd.V_far (p := ⟨gb404, 2, none⟩) (Kd.V_far (p := ⟨gb404, 1, none⟩) (Kd.V_far (p := ⟨gb404, 0, none⟩) (Kd.V_mono HO_405004.out (fun k_ hk => (⟨hk, hk.2.2⟩ : _ ∧ k_ ≠ gb404))) (fun _ hk => hk.2) (.int .i64 t408)) (fun _ hk => hk.2) (.int .i64 t409)) (fun _ hk => hk.2) (.int .i64 t410)) (fun _ hk => hk.2) (.slice Ao44 t411.length co44)) (fun _ hk => hk.2) (.slice Ao45 t414.length co45)) (fun _ hk => ⟨hk.1.1, ⟨hk.1.2.1, hk.1.2.2⟩⟩))))⟩; have n2_ : Aside0 (Kd.V k43 43 w46 w.heap.size (fun k_ => (w.heap.size ≤ k_) ∧ k_ ≠ gb393 ∧ k_ ≠ gb404) (.slice Ao44 t411.length co44) t411) := ⟨(by rw [hw]; exact (zV (Kd.V_mono (Kd.V_far (p := ⟨gb404, 4, none⟩) (Kd.V_far (p := ⟨gb404, 3, none⟩) (Kd.V_far (p := ⟨gb404, 2, none⟩) (Kd.V_far (p := ⟨gb404, 1, none⟩) (Kd.V_far (p := ⟨gb404, 0, none⟩) (Kd.V_mono HO413.out (fun k_ hk => (⟨hk, hk.2.2⟩ : _ ∧ k_ ≠ gb404))) (fun _ hk => hk.2) (.int .i64 t408)) (fun _ hk => hk.2) (.int .i64 t409)) (fun _ hk => hk.2) (.int .i64 t410)) (fun _ hk => hk.2) (.slice Ao44 t411.length co44)) (fun _ hk => hk.2) (.slice Ao45 t414.length co45)) (fun _ hk => ⟨hk.1.1, ⟨hk.1.2.1, hk.1.2.2⟩⟩))))⟩; have n3_ : Aside0 (Kd.V k27 27 w46 w.heap.size (fun k_ => (w.heap.size ≤ k_) ∧ k_ ≠ gb393 ∧ k_ ≠ gb404) (.slice Ao45 t414.length co45) t414) := ⟨(by rw [hw]; exact (zV (Kd.V_mono (Kd.V_far (p := ⟨gb404, 4, none⟩) (Kd.V_far (p := ⟨gb404, 3, none⟩) (Kd.V_far (p := ⟨gb404, 2, none⟩) (Kd.V_far (p := ⟨gb404, 1, none⟩) (Kd.V_far (p := ⟨gb404, 0, none⟩) (Kd.V_mono HO416.out (fun k_ hk => (⟨hk, hk.2.2⟩ : _ ∧ k_ ≠ gb404))) (fun _ hk => hk.2) (.int .i64 t408)) (fun _ hk => hk.2) (.int .i64 t409)) (fun _ hk => hk.2) (.int .i64 t410)) (fun _ hk => hk.2) (.slice Ao44 t411.length co44)) (fun _ hk => hk.2) (.slice Ao45 t414.length co45)) (fun _ hk => ⟨hk.1.1, ⟨hk.1.2.1, hk.1.2.2⟩⟩))))⟩; have n4_ : Aside0 (w46.heap[gb393]? = some (.cells #[.int .i64 x394000_2, .int .i64 x394001_2, .int .i64 x394002_2, .slice none 0 0, .slice none 0 0] 27 (0, 0))) := ⟨(by rw [hw]; exact (by (repeat refine zb ?_); refine blk_far ?_ NB393_404.out _; (repeat refine zb ?_); refine blk_far ?_ NB393_404.out _; (repeat refine zb ?_); refine blk_far ?_ NB393_404.out _; (repeat refine zb ?_); refine blk_far ?_ NB393_404.out _; (repeat refine zb ?_); refine blk_far ?_ NB393_404.out _; (repeat refine zb ?_); exact BK393.out))⟩; have n5_ : Aside0 (w46.heap[gb404]? = some (.cells #[.int .i64 t408, .int .i64 t409, .int .i64 t410, .slice Ao44 t411.length co44, .slice Ao45 t414.length co45] 27 (0, 0))) := ⟨(by rw [hw]; exact (by (repeat refine zb ?_); refine blk_put (cs := #[.int .i64 t408, .int .i64 t409, .int .i64 t410, .slice Ao44 t411.length co44, .slice Ao41 x405004_2.length co41]) ?_ 4 _ rfl; (repeat refine zb ?_); refine blk_put (cs := #[.int .i64 t408, .int .i64 t409, .int .i64 t410, .slice Ao40 x405003_2.length co40, .slice Ao41 x405004_2.length co41]) ?_ 3 _ rfl; (repeat refine zb ?_); refine blk_put (cs := #[.int .i64 t408, .int .i64 t409, .int .i64 x405002_2, .slice Ao40 x405003_2.length co40, .slice Ao41 x405004_2.length co41]) ?_ 2 _ rfl; (repeat refine zb ?_); refine blk_put (cs := #[.int .i64 t408, .int .i64 x405001_2, .int .i64 x405002_2, .slice Ao40 x405003_2.length co40, .slice Ao41 x405004_2.length co41]) ?_ 1 _ rfl; (repeat refine zb ?_); refine blk_put (cs := #[.int .i64 x405000_2, .int .i64 x405001_2, .int .i64 x405002_2, .slice Ao40 x405003_2.length co40, .slice Ao41 x405004_2.length co41]) ?_ 0 _ rfl; (repeat refine zb ?_); exact BK404.out))⟩; have n6_ : Aside0 (Below w.heap.size w w46) := ⟨(by rw [hw]; exact (zB HB.out))⟩; clear hw HO_405003 HO_405004 HO413 HO416 BK393 BK404 HB; have HO_405003 := n0_; have HO_405004 := n1_; have HO413 := n2_; have HO416 := n3_; have BK393 := n4_; have BK404 := n5_; have HB := n6_; clear n0_ n1_ n2_ n3_ n4_ n5_ n6_))
      go_roundg kj24
      case measure => have := HJ3.out; have := HK2.out; have := HJ24.out; omega
      case rel => exact ⟨(wrap64 (x27_2 + 1)), (x394000_2), (x394001_2), (x394002_2), (t408), (t409), (t410), (t411), (t414), (.slice Ao44 t411.length co44), (.slice Ao45 t414.length co45), zE, H', ⟨by have := HJ3.out; have := HK2.out; have := HJ24.out; omega⟩, ⟨by (with_reducible repeat (first | apply Kd.V_alloc | apply Kd.V_drewN | apply Kd.V_drew)); exact HO413.out⟩, ⟨by (with_reducible repeat (first | apply Kd.V_alloc | apply Kd.V_drewN | apply Kd.V_drew)); exact HO416.out⟩, ⟨by (repeat refine zb ?_); exact BK393.out⟩, ⟨by (repeat refine zb ?_); exact BK404.out⟩, ⟨zB HB.out⟩⟩
     replace c37 := Bool.eq_false_iff.mpr c37
     subst c37
     rw [if_neg Bool.false_ne_true] at H
     simp only [Option.some.injEq, Prod.mk.injEq] at H
     obtain ⟨rfl, rfl, rfl, rfl, rfl, rfl⟩ := H
     have hnb47 := NB404_393.out
     have hnc47 := NB393_404.out
     have hcz48_0 : wc.cell? ⟨gb404, 0, none⟩ = some (.int .i64 x405000_2) := (blk_cell BK404.out 0).trans rfl
     have hcz48_1 : wc.cell? ⟨gb404, 1, none⟩ = some (.int .i64 x405001_2) := (blk_cell BK404.out 1).trans rfl
     have hcz48_2 : wc.cell? ⟨gb404, 2, none⟩ = some (.int .i64 x405002_2) := (blk_cell BK404.out 2).trans rfl
     have hcz48_3 : wc.cell? ⟨gb404, 3, none⟩ = some (u405003) := (blk_cell BK404.out 3).trans rfl
     have hcz48_4 : wc.cell? ⟨gb404, 4, none⟩ = some (u405004) := (blk_cell BK404.out 4).trans rfl
     have hfz48_0 := blk_frozen BK404.out 0
     have hfz48_1 := blk_frozen BK404.out 1
     have hfz48_2 := blk_frozen BK404.out 2
     have hfz48_3 := blk_frozen BK404.out 3
     have hfz48_4 := blk_frozen BK404.out 4
     obtain ⟨Ao49, co49, eo49⟩ := Kd.V_slice HO_405003.out
     subst eo49
     obtain ⟨Ao50, co50, eo50⟩ := Kd.V_slice HO_405004.out
     subst eo50
     go_wp2_with (first | ((with_reducible refine gate_callee (f := 10) rfl ?_); refine goesL_ (some 43) rfl rfl Tryd.func10 (by kernel_rfl) rfl #[.string a0, .agg #[.int .i64 x405000_2, .int .i64 x405001_2, .int .i64 x405002_2, .slice Ao49 x405003_2.length co49, .slice Ao50 x405004_2.length co50], .string (rdOf ByteArray.empty l1 x27_2)] rfl zM ?_; (with_reducible refine (SS_.calls kj24 a0 x405000_2 x405001_2 x405002_2 _ _ x405003_2 (fun k_ => ((w.heap.size ≤ k_) ∧ (k_ ≠ gb393 ∧ k_ ≠ gb404))) _ _ x405004_2 (rdOf ByteArray.empty l1 x27_2) t408 t409 t410 t411 t414 false _ ?side1 ?side2 ?side3 A36.out).mono ?_); (case side1 => repeat (first | exact (Kd.V_reads' HO_405003.out).2.2 | (with_reducible refine Kd.C_alloc ?_ _) | (with_reducible refine Kd.C_drewN ?_ _) | (with_reducible refine Kd.C_drew ?_))); (case side2 => exact (Kd.V_reads' HO_405003.out).2.1); (case side3 => exact HO_405004.out); rintro e w51 ⟨v412, v415, rfl, ho0, ho1, hb⟩; refine ⟨_, rfl, ?_⟩; have n0_ := Aside0.mk (Kd.V_below (zV HO_405003.out) hb); have n1_ := Aside0.mk (Kd.V_below (zV HO_405004.out) hb); have n2_ := Aside0.mk (Kd.V_lower (Kd.V_mono (ok' := fun k_ => (w.heap.size ≤ k_) ∧ k_ ≠ gb393 ∧ k_ ≠ gb404) ho0 (fun k_ hk_ => ⟨Or.elim hk_ (fun hs_ => hs_.1) (fun hn_ => (Nat.le_trans (below_size (zB HB.out)) hn_)), Or.elim hk_ (fun hs_ => hs_.2.1) (fun hn_ => (Kd.freshB (g := gb393) (o := .cells #[.int .i64 x394000_2, .int .i64 x394001_2, .int .i64 x394002_2, .slice none 0 0, .slice none 0 0] 27 (0, 0)) (by (repeat refine zb ?_); exact BK393.out) k_ hn_)), Or.elim hk_ (fun hs_ => hs_.2.2) (fun hn_ => (Kd.freshB (g := gb404) (o := .cells #[.int .i64 x405000_2, .int .i64 x405001_2, .int .i64 x405002_2, .slice Ao49 x405003_2.length co49, .slice Ao50 x405004_2.length co50] 27 (0, 0)) (by (repeat refine zb ?_); exact BK404.out) k_ hn_))⟩)) (below_size (zB HB.out))); have n3_ := Aside0.mk (Kd.V_lower (Kd.V_mono (ok' := fun k_ => (w.heap.size ≤ k_) ∧ k_ ≠ gb393 ∧ k_ ≠ gb404) ho1 (fun k_ hk_ => ⟨Or.elim hk_ (fun hs_ => hs_.1) (fun hn_ => (Nat.le_trans (below_size (zB HB.out)) hn_)), Or.elim hk_ (fun hs_ => hs_.2.1) (fun hn_ => (Kd.freshB (g := gb393) (o := .cells #[.int .i64 x394000_2, .int .i64 x394001_2, .int .i64 x394002_2, .slice none 0 0, .slice none 0 0] 27 (0, 0)) (by (repeat refine zb ?_); exact BK393.out) k_ hn_)), Or.elim hk_ (fun hs_ => hs_.2.2) (fun hn_ => (Kd.freshB (g := gb404) (o := .cells #[.int .i64 x405000_2, .int .i64 x405001_2, .int .i64 x405002_2, .slice Ao49 x405003_2.length co49, .slice Ao50 x405004_2.length co50] 27 (0, 0)) (by (repeat refine zb ?_); exact BK404.out) k_ hn_))⟩)) (below_size (zB HB.out))); have n4_ := Aside0.mk (blk_below (g := gb393) (o := .cells #[.int .i64 x394000_2, .int .i64 x394001_2, .int .i64 x394002_2, .slice none 0 0, .slice none 0 0] 27 (0, 0)) (by (repeat refine zb ?_); exact BK393.out) hb); have n5_ := Aside0.mk (blk_below (g := gb404) (o := .cells #[.int .i64 x405000_2, .int .i64 x405001_2, .int .i64 x405002_2, .slice Ao49 x405003_2.length co49, .slice Ao50 x405004_2.length co50] 27 (0, 0)) (by (repeat refine zb ?_); exact BK404.out) hb); have n6_ := Aside0.mk (below_step (zB HB.out) hb); clear HO_405003 HO_405004 BK393 BK404 HB; have HO_405003 := n0_; have HO_405004 := n1_; have HO413 := n2_; have HO416 := n3_; have BK393 := n4_; have BK404 := n5_; have HB := n6_; clear n0_ n1_ n2_ n3_ n4_ n5_ n6_; clear hb; (try clear ho0); (try clear ho1); have hcz52_0 : w51.cell? ⟨gb404, 0, none⟩ = some (.int .i64 x405000_2) := (blk_cell BK404.out 0).trans rfl; have hcz52_1 : w51.cell? ⟨gb404, 1, none⟩ = some (.int .i64 x405001_2) := (blk_cell BK404.out 1).trans rfl; have hcz52_2 : w51.cell? ⟨gb404, 2, none⟩ = some (.int .i64 x405002_2) := (blk_cell BK404.out 2).trans rfl; have hcz52_3 : w51.cell? ⟨gb404, 3, none⟩ = some (.slice Ao49 x405003_2.length co49) := (blk_cell BK404.out 3).trans rfl; have hcz52_4 : w51.cell? ⟨gb404, 4, none⟩ = some (.slice Ao50 x405004_2.length co50) := (blk_cell BK404.out 4).trans rfl; have hfz52_0 := blk_frozen BK404.out 0; have hfz52_1 := blk_frozen BK404.out 1; have hfz52_2 := blk_frozen BK404.out 2; have hfz52_3 := blk_frozen BK404.out 3; have hfz52_4 := blk_frozen BK404.out 4; obtain ⟨Ao53, co53, eo53⟩ := Kd.V_slice HO413.out; subst eo53; obtain ⟨Ao54, co54, eo54⟩ := Kd.V_slice HO416.out; subst eo54) | ((with_reducible refine gate_store (t := 27) (p := 6) rfl ?_); refine store_event (t := 27) (p := 6) (v := ?vo_w55) (w1 := (((((w51.setCell ⟨gb404, 0, none⟩ (.int .i64 t408)).setCell ⟨gb404, 1, none⟩ (.int .i64 t409)).setCell ⟨gb404, 2, none⟩ (.int .i64 t410)).setCell ⟨gb404, 3, none⟩ (.slice Ao53 t411.length co53)).setCell ⟨gb404, 4, none⟩ (.slice Ao54 t414.length co54))) ?hg ?ho ?hn ?hr ?_; (case ho => rfl); (case hg => rfl); (case hn => rfl); (case hr => first | (go_simp; done) | (go_simp; rfl)); intro w55 hw; have n0_ : Aside0 (Kd.V k43 43 w55 w.heap.size (fun k_ => (w.heap.size ≤ k_) ∧ k_ ≠ gb393 ∧ k_ ≠ gb404) (.slice Ao49 x405003_2.length co49) x405003_2) := ⟨(by rw [hw]; exact (zV (Kd.V_mono (Kd.V_far (p := ⟨gb404, 4, none⟩) (Kd.V_far (p := ⟨gb404, 3, none⟩) (Kd.V_far (p := ⟨gb404, 2, none⟩) (Kd.V_far (p := ⟨gb404, 1, none⟩) (Kd.V_far (p := ⟨gb404, 0, none⟩) (Kd.V_mono HO_405003.out (fun k_ hk => (⟨hk, hk.2.2⟩ : _ ∧ k_ ≠ gb404))) (fun _ hk => hk.2) (.int .i64 t408)) (fun _ hk => hk.2) (.int .i64 t409)) (fun _ hk => hk.2) (.int .i64 t410)) (fun _ hk => hk.2) (.slice Ao53 t411.length co53)) (fun _ hk => hk.2) (.slice Ao54 t414.length co54)) (fun _ hk => ⟨hk.1.1, ⟨hk.1.2.1, hk.1.2.2⟩⟩))))⟩; have n1_ : Aside0 (Kd.V k27 27 w55 w.heap.size (fun k_ => (w.heap.size ≤ k_) ∧ k_ ≠ gb393 ∧ k_ ≠ gb404) (.slice Ao50 x405004_2.length co50) x405004_2) := ⟨(by rw [hw]; exact (zV (Kd.V_mono (Kd.V_far (p := ⟨gb404, 4, none⟩) (Kd.V_far (p := ⟨gb404, 3, none⟩) (Kd.V_far (p := ⟨gb404, 2, none⟩) (Kd.V_far (p := ⟨gb404, 1, none⟩) (Kd.V_far (p := ⟨gb404, 0, none⟩) (Kd.V_mono HO_405004.out (fun k_ hk => (⟨hk, hk.2.2⟩ : _ ∧ k_ ≠ gb404))) (fun _ hk => hk.2) (.int .i64 t408)) (fun _ hk => hk.2) (.int .i64 t409)) (fun _ hk => hk.2) (.int .i64 t410)) (fun _ hk => hk.2) (.slice Ao53 t411.length co53)) (fun _ hk => hk.2) (.slice Ao54 t414.length co54)) (fun _ hk => ⟨hk.1.1, ⟨hk.1.2.1, hk.1.2.2⟩⟩))))⟩; have n2_ : Aside0 (Kd.V k43 43 w55 w.heap.size (fun k_ => (w.heap.size ≤ k_) ∧ k_ ≠ gb393 ∧ k_ ≠ gb404) (.slice Ao53 t411.length co53) t411) := ⟨(by rw [hw]; exact (zV (Kd.V_mono (Kd.V_far (p := ⟨gb404, 4, none⟩) (Kd.V_far (p := ⟨gb404, 3, none⟩) (Kd.V_far (p := ⟨gb404, 2, none⟩) (Kd.V_far (p := ⟨gb404, 1, none⟩) (Kd.V_far (p := ⟨gb404, 0, none⟩) (Kd.V_mono HO413.out (fun k_ hk => (⟨hk, hk.2.2⟩ : _ ∧ k_ ≠ gb404))) (fun _ hk => hk.2) (.int .i64 t408)) (fun _ hk => hk.2) (.int .i64 t409)) (fun _ hk => hk.2) (.int .i64 t410)) (fun _ hk => hk.2) (.slice Ao53 t411.length co53)) (fun _ hk => hk.2) (.slice Ao54 t414.length co54)) (fun _ hk => ⟨hk.1.1, ⟨hk.1.2.1, hk.1.2.2⟩⟩))))⟩; have n3_ : Aside0 (Kd.V k27 27 w55 w.heap.size (fun k_ => (w.heap.size ≤ k_) ∧ k_ ≠ gb393 ∧ k_ ≠ gb404) (.slice Ao54 t414.length co54) t414) := ⟨(by rw [hw]; exact (zV (Kd.V_mono (Kd.V_far (p := ⟨gb404, 4, none⟩) (Kd.V_far (p := ⟨gb404, 3, none⟩) (Kd.V_far (p := ⟨gb404, 2, none⟩) (Kd.V_far (p := ⟨gb404, 1, none⟩) (Kd.V_far (p := ⟨gb404, 0, none⟩) (Kd.V_mono HO416.out (fun k_ hk => (⟨hk, hk.2.2⟩ : _ ∧ k_ ≠ gb404))) (fun _ hk => hk.2) (.int .i64 t408)) (fun _ hk => hk.2) (.int .i64 t409)) (fun _ hk => hk.2) (.int .i64 t410)) (fun _ hk => hk.2) (.slice Ao53 t411.length co53)) (fun _ hk => hk.2) (.slice Ao54 t414.length co54)) (fun _ hk => ⟨hk.1.1, ⟨hk.1.2.1, hk.1.2.2⟩⟩))))⟩; have n4_ : Aside0 (w55.heap[gb393]? = some (.cells #[.int .i64 x394000_2, .int .i64 x394001_2, .int .i64 x394002_2, .slice none 0 0, .slice none 0 0] 27 (0, 0))) := ⟨(by rw [hw]; exact (by (repeat refine zb ?_); refine blk_far ?_ NB393_404.out _; (repeat refine zb ?_); refine blk_far ?_ NB393_404.out _; (repeat refine zb ?_); refine blk_far ?_ NB393_404.out _; (repeat refine zb ?_); refine blk_far ?_ NB393_404.out _; (repeat refine zb ?_); refine blk_far ?_ NB393_404.out _; (repeat refine zb ?_); exact BK393.out))⟩; have n5_ : Aside0 (w55.heap[gb404]? = some (.cells #[.int .i64 t408, .int .i64 t409, .int .i64 t410, .slice Ao53 t411.length co53, .slice Ao54 t414.length co54] 27 (0, 0))) := ⟨(by rw [hw]; exact (by (repeat refine zb ?_); refine blk_put (cs := #[.int .i64 t408, .int .i64 t409, .int .i64 t410, .slice Ao53 t411.length co53, .slice Ao50 x405004_2.length co50]) ?_ 4 _ rfl; (repeat refine zb ?_); refine blk_put (cs := #[.int .i64 t408, .int .i64 t409, .int .i64 t410, .slice Ao49 x405003_2.length co49, .slice Ao50 x405004_2.length co50]) ?_ 3 _ rfl; (repeat refine zb ?_); refine blk_put (cs := #[.int .i64 t408, .int .i64 t409, .int .i64 x405002_2, .slice Ao49 x405003_2.length co49, .slice Ao50 x405004_2.length co50]) ?_ 2 _ rfl; (repeat refine zb ?_); refine blk_put (cs := #[.int .i64 t408, .int .i64 x405001_2, .int .i64 x405002_2, .slice Ao49 x405003_2.length co49, .slice Ao50 x405004_2.length co50]) ?_ 1 _ rfl; (repeat refine zb ?_); refine blk_put (cs := #[.int .i64 x405000_2, .int .i64 x405001_2, .int .i64 x405002_2, .slice Ao49 x405003_2.length co49, .slice Ao50 x405004_2.length co50]) ?_ 0 _ rfl; (repeat refine zb ?_); exact BK404.out))⟩; have n6_ : Aside0 (Below w.heap.size w w55) := ⟨(by rw [hw]; exact (zB HB.out))⟩; clear hw HO_405003 HO_405004 HO413 HO416 BK393 BK404 HB; have HO_405003 := n0_; have HO_405004 := n1_; have HO413 := n2_; have HO416 := n3_; have BK393 := n4_; have BK404 := n5_; have HB := n6_; clear n0_ n1_ n2_ n3_ n4_ n5_ n6_; have hcz56_0 : w55.cell? ⟨gb393, 0, none⟩ = some (.int .i64 x394000_2) := (blk_cell BK393.out 0).trans rfl; have hcz56_1 : w55.cell? ⟨gb393, 1, none⟩ = some (.int .i64 x394001_2) := (blk_cell BK393.out 1).trans rfl; have hcz56_2 : w55.cell? ⟨gb393, 2, none⟩ = some (.int .i64 x394002_2) := (blk_cell BK393.out 2).trans rfl; have hcz56_3 : w55.cell? ⟨gb393, 3, none⟩ = some (.slice none 0 0) := (blk_cell BK393.out 3).trans rfl; have hcz56_4 : w55.cell? ⟨gb393, 4, none⟩ = some (.slice none 0 0) := (blk_cell BK393.out 4).trans rfl; have hfz56_0 := blk_frozen BK393.out 0; have hfz56_1 := blk_frozen BK393.out 1; have hfz56_2 := blk_frozen BK393.out 2; have hfz56_3 := blk_frozen BK393.out 3; have hfz56_4 := blk_frozen BK393.out 4) | ((with_reducible refine gate_store (t := 27) (p := 4) rfl ?_); refine store_event (t := 27) (p := 4) (v := ?vo_w57) (w1 := (((((w55.setCell ⟨gb393, 0, none⟩ (.int .i64 0)).setCell ⟨gb393, 1, none⟩ (.int .i64 0)).setCell ⟨gb393, 2, none⟩ (.int .i64 0)).setCell ⟨gb393, 3, none⟩ (.slice none 0 0)).setCell ⟨gb393, 4, none⟩ (.slice none 0 0))) ?hg ?ho ?hn ?hr ?_; (case ho => rfl); (case hg => rfl); (case hn => rfl); (case hr => first | (go_simp; done) | (go_simp; rfl)); intro w57 hw; have n0_ : Aside0 (Kd.V k43 43 w57 w.heap.size (fun k_ => (w.heap.size ≤ k_) ∧ k_ ≠ gb393 ∧ k_ ≠ gb404) (.slice Ao49 x405003_2.length co49) x405003_2) := ⟨(by rw [hw]; exact (zV (Kd.V_mono (Kd.V_far (p := ⟨gb393, 4, none⟩) (Kd.V_far (p := ⟨gb393, 3, none⟩) (Kd.V_far (p := ⟨gb393, 2, none⟩) (Kd.V_far (p := ⟨gb393, 1, none⟩) (Kd.V_far (p := ⟨gb393, 0, none⟩) (Kd.V_mono HO_405003.out (fun k_ hk => (⟨hk, hk.2.1⟩ : _ ∧ k_ ≠ gb393))) (fun _ hk => hk.2) (.int .i64 0)) (fun _ hk => hk.2) (.int .i64 0)) (fun _ hk => hk.2) (.int .i64 0)) (fun _ hk => hk.2) (.slice none 0 0)) (fun _ hk => hk.2) (.slice none 0 0)) (fun _ hk => ⟨hk.1.1, ⟨hk.1.2.1, hk.1.2.2⟩⟩))))⟩; have n1_ : Aside0 (Kd.V k27 27 w57 w.heap.size (fun k_ => (w.heap.size ≤ k_) ∧ k_ ≠ gb393 ∧ k_ ≠ gb404) (.slice Ao50 x405004_2.length co50) x405004_2) := ⟨(by rw [hw]; exact (zV (Kd.V_mono (Kd.V_far (p := ⟨gb393, 4, none⟩) (Kd.V_far (p := ⟨gb393, 3, none⟩) (Kd.V_far (p := ⟨gb393, 2, none⟩) (Kd.V_far (p := ⟨gb393, 1, none⟩) (Kd.V_far (p := ⟨gb393, 0, none⟩) (Kd.V_mono HO_405004.out (fun k_ hk => (⟨hk, hk.2.1⟩ : _ ∧ k_ ≠ gb393))) (fun _ hk => hk.2) (.int .i64 0)) (fun _ hk => hk.2) (.int .i64 0)) (fun _ hk => hk.2) (.int .i64 0)) (fun _ hk => hk.2) (.slice none 0 0)) (fun _ hk => hk.2) (.slice none 0 0)) (fun _ hk => ⟨hk.1.1, ⟨hk.1.2.1, hk.1.2.2⟩⟩))))⟩; have n2_ : Aside0 (Kd.V k43 43 w57 w.heap.size (fun k_ => (w.heap.size ≤ k_) ∧ k_ ≠ gb393 ∧ k_ ≠ gb404) (.slice Ao53 t411.length co53) t411) := ⟨(by rw [hw]; exact (zV (Kd.V_mono (Kd.V_far (p := ⟨gb393, 4, none⟩) (Kd.V_far (p := ⟨gb393, 3, none⟩) (Kd.V_far (p := ⟨gb393, 2, none⟩) (Kd.V_far (p := ⟨gb393, 1, none⟩) (Kd.V_far (p := ⟨gb393, 0, none⟩) (Kd.V_mono HO413.out (fun k_ hk => (⟨hk, hk.2.1⟩ : _ ∧ k_ ≠ gb393))) (fun _ hk => hk.2) (.int .i64 0)) (fun _ hk => hk.2) (.int .i64 0)) (fun _ hk => hk.2) (.int .i64 0)) (fun _ hk => hk.2) (.slice none 0 0)) (fun _ hk => hk.2) (.slice none 0 0)) (fun _ hk => ⟨hk.1.1, ⟨hk.1.2.1, hk.1.2.2⟩⟩))))⟩; have n3_ : Aside0 (Kd.V k27 27 w57 w.heap.size (fun k_ => (w.heap.size ≤ k_) ∧ k_ ≠ gb393 ∧ k_ ≠ gb404) (.slice Ao54 t414.length co54) t414) := ⟨(by rw [hw]; exact (zV (Kd.V_mono (Kd.V_far (p := ⟨gb393, 4, none⟩) (Kd.V_far (p := ⟨gb393, 3, none⟩) (Kd.V_far (p := ⟨gb393, 2, none⟩) (Kd.V_far (p := ⟨gb393, 1, none⟩) (Kd.V_far (p := ⟨gb393, 0, none⟩) (Kd.V_mono HO416.out (fun k_ hk => (⟨hk, hk.2.1⟩ : _ ∧ k_ ≠ gb393))) (fun _ hk => hk.2) (.int .i64 0)) (fun _ hk => hk.2) (.int .i64 0)) (fun _ hk => hk.2) (.int .i64 0)) (fun _ hk => hk.2) (.slice none 0 0)) (fun _ hk => hk.2) (.slice none 0 0)) (fun _ hk => ⟨hk.1.1, ⟨hk.1.2.1, hk.1.2.2⟩⟩))))⟩; have n4_ : Aside0 (w57.heap[gb393]? = some (.cells #[.int .i64 0, .int .i64 0, .int .i64 0, .slice none 0 0, .slice none 0 0] 27 (0, 0))) := ⟨(by rw [hw]; exact (by (repeat refine zb ?_); refine blk_put (cs := #[.int .i64 0, .int .i64 0, .int .i64 0, .slice none 0 0, .slice none 0 0]) ?_ 4 _ rfl; (repeat refine zb ?_); refine blk_put (cs := #[.int .i64 0, .int .i64 0, .int .i64 0, .slice none 0 0, .slice none 0 0]) ?_ 3 _ rfl; (repeat refine zb ?_); refine blk_put (cs := #[.int .i64 0, .int .i64 0, .int .i64 x394002_2, .slice none 0 0, .slice none 0 0]) ?_ 2 _ rfl; (repeat refine zb ?_); refine blk_put (cs := #[.int .i64 0, .int .i64 x394001_2, .int .i64 x394002_2, .slice none 0 0, .slice none 0 0]) ?_ 1 _ rfl; (repeat refine zb ?_); refine blk_put (cs := #[.int .i64 x394000_2, .int .i64 x394001_2, .int .i64 x394002_2, .slice none 0 0, .slice none 0 0]) ?_ 0 _ rfl; (repeat refine zb ?_); exact BK393.out))⟩; have n5_ : Aside0 (w57.heap[gb404]? = some (.cells #[.int .i64 t408, .int .i64 t409, .int .i64 t410, .slice Ao53 t411.length co53, .slice Ao54 t414.length co54] 27 (0, 0))) := ⟨(by rw [hw]; exact (by (repeat refine zb ?_); refine blk_far ?_ NB404_393.out _; (repeat refine zb ?_); refine blk_far ?_ NB404_393.out _; (repeat refine zb ?_); refine blk_far ?_ NB404_393.out _; (repeat refine zb ?_); refine blk_far ?_ NB404_393.out _; (repeat refine zb ?_); refine blk_far ?_ NB404_393.out _; (repeat refine zb ?_); exact BK404.out))⟩; have n6_ : Aside0 (Below w.heap.size w w57) := ⟨(by rw [hw]; exact (zB HB.out))⟩; clear hw HO_405003 HO_405004 HO413 HO416 BK393 BK404 HB; have HO_405003 := n0_; have HO_405004 := n1_; have HO413 := n2_; have HO416 := n3_; have BK393 := n4_; have BK404 := n5_; have HB := n6_; clear n0_ n1_ n2_ n3_ n4_ n5_ n6_))
     refine bodyPost_ret (results_ct rfl _ _ gb393 27 #[.int .i64 0, .int .i64 0, .int .i64 0, .slice none 0 0, .slice none 0 0] (0, 0) _ rfl (by (repeat refine zb ?_); exact BK393.out) Tryd.underlying27 rfl (by kernel_rfl)) rfl ?_
     exact ⟨_, _, zX, Kd.V_nil _ _ _ _ _, Kd.V_nil _ _ _ _ _, zB HB.out⟩
    rw [if_neg c24] at H
    exact absurd H (by simp)
   rw [if_neg c23] at H
   exact absurd H (by simp)
  rw [if_neg c22] at H
  have c22b0 : decide (x27_2 < (l1.length : Int)) = false := decide_eq_false c22
  clear c22
  simp only [Option.some.injEq, Prod.mk.injEq] at H
  obtain ⟨rfl, rfl, rfl, rfl, rfl, rfl⟩ := H
  have hnb58 := NB404_393.out
  have hnc58 := NB393_404.out
  have hcz59_0 : wr.cell? ⟨gb404, 0, none⟩ = some (.int .i64 x405000_2) := (blk_cell BK404.out 0).trans rfl
  have hcz59_1 : wr.cell? ⟨gb404, 1, none⟩ = some (.int .i64 x405001_2) := (blk_cell BK404.out 1).trans rfl
  have hcz59_2 : wr.cell? ⟨gb404, 2, none⟩ = some (.int .i64 x405002_2) := (blk_cell BK404.out 2).trans rfl
  have hcz59_3 : wr.cell? ⟨gb404, 3, none⟩ = some (u405003) := (blk_cell BK404.out 3).trans rfl
  have hcz59_4 : wr.cell? ⟨gb404, 4, none⟩ = some (u405004) := (blk_cell BK404.out 4).trans rfl
  have hfz59_0 := blk_frozen BK404.out 0
  have hfz59_1 := blk_frozen BK404.out 1
  have hfz59_2 := blk_frozen BK404.out 2
  have hfz59_3 := blk_frozen BK404.out 3
  have hfz59_4 := blk_frozen BK404.out 4
  have hcz60_0 : wr.cell? ⟨gb393, 0, none⟩ = some (.int .i64 x394000_2) := (blk_cell BK393.out 0).trans rfl
  have hcz60_1 : wr.cell? ⟨gb393, 1, none⟩ = some (.int .i64 x394001_2) := (blk_cell BK393.out 1).trans rfl
  have hcz60_2 : wr.cell? ⟨gb393, 2, none⟩ = some (.int .i64 x394002_2) := (blk_cell BK393.out 2).trans rfl
  have hcz60_3 : wr.cell? ⟨gb393, 3, none⟩ = some (.slice none 0 0) := (blk_cell BK393.out 3).trans rfl
  have hcz60_4 : wr.cell? ⟨gb393, 4, none⟩ = some (.slice none 0 0) := (blk_cell BK393.out 4).trans rfl
  have hfz60_0 := blk_frozen BK393.out 0
  have hfz60_1 := blk_frozen BK393.out 1
  have hfz60_2 := blk_frozen BK393.out 2
  have hfz60_3 := blk_frozen BK393.out 3
  have hfz60_4 := blk_frozen BK393.out 4
  obtain ⟨Ao61, co61, eo61⟩ := Kd.V_slice HO_405003.out
  subst eo61
  obtain ⟨Ao62, co62, eo62⟩ := Kd.V_slice HO_405004.out
  subst eo62
  go_wp2_with (first | ((with_reducible refine gate_store (t := 27) (p := 4) rfl ?_); refine store_event (t := 27) (p := 4) (v := ?vo_w63) (w1 := (((((wr.setCell ⟨gb393, 0, none⟩ (.int .i64 x405000_2)).setCell ⟨gb393, 1, none⟩ (.int .i64 x405001_2)).setCell ⟨gb393, 2, none⟩ (.int .i64 x405002_2)).setCell ⟨gb393, 3, none⟩ (.slice Ao61 x405003_2.length co61)).setCell ⟨gb393, 4, none⟩ (.slice Ao62 x405004_2.length co62))) ?hg ?ho ?hn ?hr ?_; (case ho => rfl); (case hg => rfl); (case hn => rfl); (case hr => first | (go_simp; done) | (go_simp; rfl)); intro w63 hw; have n0_ : Aside0 (Kd.V k43 43 w63 w.heap.size (fun k_ => (w.heap.size ≤ k_) ∧ k_ ≠ gb393 ∧ k_ ≠ gb404) (.slice Ao61 x405003_2.length co61) x405003_2) := ⟨(by rw [hw]; exact (zV (Kd.V_mono (Kd.V_far (p := ⟨gb393, 4, none⟩) (Kd.V_far (p := ⟨gb393, 3, none⟩) (Kd.V_far (p := ⟨gb393, 2, none⟩) (Kd.V_far (p := ⟨gb393, 1, none⟩) (Kd.V_far (p := ⟨gb393, 0, none⟩) (Kd.V_mono HO_405003.out (fun k_ hk => (⟨hk, hk.2.1⟩ : _ ∧ k_ ≠ gb393))) (fun _ hk => hk.2) (.int .i64 x405000_2)) (fun _ hk => hk.2) (.int .i64 x405001_2)) (fun _ hk => hk.2) (.int .i64 x405002_2)) (fun _ hk => hk.2) (.slice Ao61 x405003_2.length co61)) (fun _ hk => hk.2) (.slice Ao62 x405004_2.length co62)) (fun _ hk => ⟨hk.1.1, ⟨hk.1.2.1, hk.1.2.2⟩⟩))))⟩; have n1_ : Aside0 (Kd.V k27 27 w63 w.heap.size (fun k_ => (w.heap.size ≤ k_) ∧ k_ ≠ gb393 ∧ k_ ≠ gb404) (.slice Ao62 x405004_2.length co62) x405004_2) := ⟨(by rw [hw]; exact (zV (Kd.V_mono (Kd.V_far (p := ⟨gb393, 4, none⟩) (Kd.V_far (p := ⟨gb393, 3, none⟩) (Kd.V_far (p := ⟨gb393, 2, none⟩) (Kd.V_far (p := ⟨gb393, 1, none⟩) (Kd.V_far (p := ⟨gb393, 0, none⟩) (Kd.V_mono HO_405004.out (fun k_ hk => (⟨hk, hk.2.1⟩ : _ ∧ k_ ≠ gb393))) (fun _ hk => hk.2) (.int .i64 x405000_2)) (fun _ hk => hk.2) (.int .i64 x405001_2)) (fun _ hk => hk.2) (.int .i64 x405002_2)) (fun _ hk => hk.2) (.slice Ao61 x405003_2.length co61)) (fun _ hk => hk.2) (.slice Ao62 x405004_2.length co62)) (fun _ hk => ⟨hk.1.1, ⟨hk.1.2.1, hk.1.2.2⟩⟩))))⟩; have n2_ : Aside0 (w63.heap[gb393]? = some (.cells #[.int .i64 x405000_2, .int .i64 x405001_2, .int .i64 x405002_2, .slice Ao61 x405003_2.length co61, .slice Ao62 x405004_2.length co62] 27 (0, 0))) := ⟨(by rw [hw]; exact (by (repeat refine zb ?_); refine blk_put (cs := #[.int .i64 x405000_2, .int .i64 x405001_2, .int .i64 x405002_2, .slice Ao61 x405003_2.length co61, .slice none 0 0]) ?_ 4 _ rfl; (repeat refine zb ?_); refine blk_put (cs := #[.int .i64 x405000_2, .int .i64 x405001_2, .int .i64 x405002_2, .slice none 0 0, .slice none 0 0]) ?_ 3 _ rfl; (repeat refine zb ?_); refine blk_put (cs := #[.int .i64 x405000_2, .int .i64 x405001_2, .int .i64 x394002_2, .slice none 0 0, .slice none 0 0]) ?_ 2 _ rfl; (repeat refine zb ?_); refine blk_put (cs := #[.int .i64 x405000_2, .int .i64 x394001_2, .int .i64 x394002_2, .slice none 0 0, .slice none 0 0]) ?_ 1 _ rfl; (repeat refine zb ?_); refine blk_put (cs := #[.int .i64 x394000_2, .int .i64 x394001_2, .int .i64 x394002_2, .slice none 0 0, .slice none 0 0]) ?_ 0 _ rfl; (repeat refine zb ?_); exact BK393.out))⟩; have n3_ : Aside0 (w63.heap[gb404]? = some (.cells #[.int .i64 x405000_2, .int .i64 x405001_2, .int .i64 x405002_2, .slice Ao61 x405003_2.length co61, .slice Ao62 x405004_2.length co62] 27 (0, 0))) := ⟨(by rw [hw]; exact (by (repeat refine zb ?_); refine blk_far ?_ NB404_393.out _; (repeat refine zb ?_); refine blk_far ?_ NB404_393.out _; (repeat refine zb ?_); refine blk_far ?_ NB404_393.out _; (repeat refine zb ?_); refine blk_far ?_ NB404_393.out _; (repeat refine zb ?_); refine blk_far ?_ NB404_393.out _; (repeat refine zb ?_); exact BK404.out))⟩; have n4_ : Aside0 (Below w.heap.size w w63) := ⟨(by rw [hw]; exact (zB HB.out))⟩; clear hw HO_405003 HO_405004 BK393 BK404 HB; have HO_405003 := n0_; have HO_405004 := n1_; have BK393 := n2_; have BK404 := n3_; have HB := n4_; clear n0_ n1_ n2_ n3_ n4_))
  refine bodyPost_ret (results_ct rfl _ _ gb393 27 #[.int .i64 x405000_2, .int .i64 x405001_2, .int .i64 x405002_2, .slice Ao61 x405003_2.length co61, .slice Ao62 x405004_2.length co62] (0, 0) _ rfl (by (repeat refine zb ?_); exact BK393.out) Tryd.underlying27 rfl (by kernel_rfl)) rfl ?_
  exact ⟨_, _, zX, by (with_reducible repeat (first | apply Kd.V_alloc | apply Kd.V_drewN | apply Kd.V_drew)); exact Kd.V_mono HO_405003.out (fun _ hk => hk.1), by (with_reducible repeat (first | apply Kd.V_alloc | apply Kd.V_drewN | apply Kd.V_drew)); exact Kd.V_mono HO_405004.out (fun _ hk => hk.1), zB HB.out⟩
def UU_.f (a0 : Unit) (l1 : List Int) : Option (Int) := if 7 < (l1.length : Int) then (if 0 < (l1.length : Int) then (if 1 < (l1.length : Int) then (if 2 < (l1.length : Int) then (if 3 < (l1.length : Int) then (if 4 < (l1.length : Int) then (if 5 < (l1.length : Int) then (if 6 < (l1.length : Int) then (some (Go.bits .or .u64 (Go.bits .or .u64 (Go.bits .or .u64 (Go.bits .or .u64 (Go.bits .or .u64 (Go.bits .or .u64 (Go.bits .or .u64 (IntKind.u64.wrap (rd l1 0)) (IntKind.u64.wrap ((IntKind.u64.wrap (rd l1 1)) * 256))) (IntKind.u64.wrap ((IntKind.u64.wrap (rd l1 2)) * 65536))) (IntKind.u64.wrap ((IntKind.u64.wrap (rd l1 3)) * 16777216))) (IntKind.u64.wrap ((IntKind.u64.wrap (rd l1 4)) * 4294967296))) (IntKind.u64.wrap ((IntKind.u64.wrap (rd l1 5)) * 1099511627776))) (IntKind.u64.wrap ((IntKind.u64.wrap (rd l1 6)) * 281474976710656))) (IntKind.u64.wrap ((IntKind.u64.wrap (rd l1 7)) * 72057594037927936)))) else (none)) else (none)) else (none)) else (none)) else (none)) else (none)) else (none)) else (none)
set_option maxHeartbeats 8000000 in
set_option maxRecDepth 100000 in
theorem UU_.calls (a0 : Unit) (A1 : Option Addr) (c1 : Nat) (l1 : List Int) (r : Int) (w : World) (hr1 : Kd.C (Kd.int .u8) w A1 l1.length l1) (hc1 : l1.length ≤ c1) (h : UU_.f a0 l1 = some r) :
    Calls Tryd.prog 41 #[.agg #[], .slice A1 l1.length c1] w fun e w' => e = .returned (.int .u64 r) ∧ Below w.heap.size w w' := by
 have HR1 := Aside0.mk hr1
 have HC1 := Aside0.mk hc1
 clear hr1 hc1
 have HB := Aside0.mk (Below.refl w.heap.size w)
 have H : (if 7 < (l1.length : Int) then (if 0 < (l1.length : Int) then (if 1 < (l1.length : Int) then (if 2 < (l1.length : Int) then (if 3 < (l1.length : Int) then (if 4 < (l1.length : Int) then (if 5 < (l1.length : Int) then (if 6 < (l1.length : Int) then (some (Go.bits .or .u64 (Go.bits .or .u64 (Go.bits .or .u64 (Go.bits .or .u64 (Go.bits .or .u64 (Go.bits .or .u64 (Go.bits .or .u64 (IntKind.u64.wrap (rd l1 0)) (IntKind.u64.wrap ((IntKind.u64.wrap (rd l1 1)) * 256))) (IntKind.u64.wrap ((IntKind.u64.wrap (rd l1 2)) * 65536))) (IntKind.u64.wrap ((IntKind.u64.wrap (rd l1 3)) * 16777216))) (IntKind.u64.wrap ((IntKind.u64.wrap (rd l1 4)) * 4294967296))) (IntKind.u64.wrap ((IntKind.u64.wrap (rd l1 5)) * 1099511627776))) (IntKind.u64.wrap ((IntKind.u64.wrap (rd l1 6)) * 281474976710656))) (IntKind.u64.wrap ((IntKind.u64.wrap (rd l1 7)) * 72057594037927936)))) else (none)) else (none)) else (none)) else (none)) else (none)) else (none)) else (none)) else (none)) = some r := h
 clear h
 by_cases c3 : 7 < (l1.length : Int)
 ·
  rw [if_pos c3] at H
  have c3b0 : decide (7 < (l1.length : Int)) = true := decide_eq_true c3
  have c3b1 : decide (7 < l1.length) = true := decide_eq_true (by omega)
  clear c3
  by_cases c4 : 0 < (l1.length : Int)
  ·
   rw [if_pos c4] at H
   have c4b0 : decide (0 < (l1.length : Int)) = true := decide_eq_true c4
   have c4b1 : decide (0 < l1.length) = true := decide_eq_true (by omega)
   clear c4
   by_cases c5 : 1 < (l1.length : Int)
   ·
    rw [if_pos c5] at H
    have c5b0 : decide (1 < (l1.length : Int)) = true := decide_eq_true c5
    have c5b1 : decide (1 < l1.length) = true := decide_eq_true (by omega)
    clear c5
    by_cases c6 : 2 < (l1.length : Int)
    ·
     rw [if_pos c6] at H
     have c6b0 : decide (2 < (l1.length : Int)) = true := decide_eq_true c6
     have c6b1 : decide (2 < l1.length) = true := decide_eq_true (by omega)
     clear c6
     by_cases c7 : 3 < (l1.length : Int)
     ·
      rw [if_pos c7] at H
      have c7b0 : decide (3 < (l1.length : Int)) = true := decide_eq_true c7
      have c7b1 : decide (3 < l1.length) = true := decide_eq_true (by omega)
      clear c7
      by_cases c8 : 4 < (l1.length : Int)
      ·
       rw [if_pos c8] at H
       have c8b0 : decide (4 < (l1.length : Int)) = true := decide_eq_true c8
       have c8b1 : decide (4 < l1.length) = true := decide_eq_true (by omega)
       clear c8
       by_cases c9 : 5 < (l1.length : Int)
       ·
        rw [if_pos c9] at H
        have c9b0 : decide (5 < (l1.length : Int)) = true := decide_eq_true c9
        have c9b1 : decide (5 < l1.length) = true := decide_eq_true (by omega)
        clear c9
        by_cases c10 : 6 < (l1.length : Int)
        ·
         rw [if_pos c10] at H
         have c10b0 : decide (6 < (l1.length : Int)) = true := decide_eq_true c10
         have c10b1 : decide (6 < l1.length) = true := decide_eq_true (by omega)
         clear c10
         obtain rfl := Option.some.inj H
         go_enter Tryd.func41, Tryd.ntmps41
         iterate 3 (try go_wp2_with (first | ((with_reducible refine gate_dst (N := 2) rfl ?_); refine box_event ?hg (N := 2) ?hd (cs := #[]) (t := 72) ?hr ?_; (case hd => rfl); (case hg => rfl); (case hr => first | (go_simp; done) | (go_simp; rfl)); intro gb418 hg w11 hbox hb; have n0_ := Aside0.mk (below_step (zB HB.out) hb); have n1_ := Aside0.mk (hbox); have n2_ := Aside0.mk ((by rw [hg]; exact (below_size (zB HB.out)) : w.heap.size ≤ gb418)); have n3_ := Aside0.mk ((by rw [hg]; exact (below_size (zB HB.out)) : w.heap.size ≤ gb418)); clear HB; have HB := n0_; have BK418 := n1_; have GW418 := n2_; have GE418 := n3_; clear n0_ n1_ n2_ n3_; clear hb hbox hg; have p419 : 0 ≤ (7 : Int) := (by omega); have q419 : 7 < (l1.length : Int) := dT; obtain ⟨ad419, e419, hx419_0⟩ := Kd.at_int HR1.out 7 p419 q419; cases e419; (try simp only [show (7 : Int).toNat = 7 from rfl, Nat.reduceMul, Nat.reduceEqDiff, Go.Addr.add, ↓reduceIte] at hx419_0); have qi419 : (7 < l1.length) = True := eq_true (by omega); (try rw [show ((7 : Int)).toNat = 7 from rfl] at hx419_0); replace hx419_0 := zH HB.out hx419_0; replace p419 := eq_true p419; replace q419 := eq_true q419; have p420 : 0 ≤ (0 : Int) := (by omega); have q420 : 0 < (l1.length : Int) := dT; obtain ⟨ad420, e420, hx420_0⟩ := Kd.at_int HR1.out 0 p420 q420; obtain rfl : ad419 = ad420 := (by injection e420); have qi420 : (0 < l1.length) = True := eq_true (by omega); (try rw [show ((0 : Int)).toNat = 0 from rfl] at hx420_0); (try rw [Addr.add_zero'] at hx420_0); replace hx420_0 := zH HB.out hx420_0; replace p420 := eq_true p420; replace q420 := eq_true q420; have p421 : 0 ≤ (1 : Int) := (by omega); have q421 : 1 < (l1.length : Int) := dT; obtain ⟨ad421, e421, hx421_0⟩ := Kd.at_int HR1.out 1 p421 q421; obtain rfl : ad419 = ad421 := (by injection e421); (try simp only [show (1 : Int).toNat = 1 from rfl, Nat.reduceMul, Nat.reduceEqDiff, Go.Addr.add, ↓reduceIte] at hx421_0); have qi421 : (1 < l1.length) = True := eq_true (by omega); (try rw [show ((1 : Int)).toNat = 1 from rfl] at hx421_0); replace hx421_0 := zH HB.out hx421_0; replace p421 := eq_true p421; replace q421 := eq_true q421; have p422 : 0 ≤ (2 : Int) := (by omega); have q422 : 2 < (l1.length : Int) := dT; obtain ⟨ad422, e422, hx422_0⟩ := Kd.at_int HR1.out 2 p422 q422; obtain rfl : ad419 = ad422 := (by injection e422); (try simp only [show (2 : Int).toNat = 2 from rfl, Nat.reduceMul, Nat.reduceEqDiff, Go.Addr.add, ↓reduceIte] at hx422_0); have qi422 : (2 < l1.length) = True := eq_true (by omega); (try rw [show ((2 : Int)).toNat = 2 from rfl] at hx422_0); replace hx422_0 := zH HB.out hx422_0; replace p422 := eq_true p422; replace q422 := eq_true q422; have p423 : 0 ≤ (3 : Int) := (by omega); have q423 : 3 < (l1.length : Int) := dT; obtain ⟨ad423, e423, hx423_0⟩ := Kd.at_int HR1.out 3 p423 q423; obtain rfl : ad419 = ad423 := (by injection e423); (try simp only [show (3 : Int).toNat = 3 from rfl, Nat.reduceMul, Nat.reduceEqDiff, Go.Addr.add, ↓reduceIte] at hx423_0); have qi423 : (3 < l1.length) = True := eq_true (by omega); (try rw [show ((3 : Int)).toNat = 3 from rfl] at hx423_0); replace hx423_0 := zH HB.out hx423_0; replace p423 := eq_true p423; replace q423 := eq_true q423; have p424 : 0 ≤ (4 : Int) := (by omega); have q424 : 4 < (l1.length : Int) := dT; obtain ⟨ad424, e424, hx424_0⟩ := Kd.at_int HR1.out 4 p424 q424; obtain rfl : ad419 = ad424 := (by injection e424); (try simp only [show (4 : Int).toNat = 4 from rfl, Nat.reduceMul, Nat.reduceEqDiff, Go.Addr.add, ↓reduceIte] at hx424_0); have qi424 : (4 < l1.length) = True := eq_true (by omega); (try rw [show ((4 : Int)).toNat = 4 from rfl] at hx424_0); replace hx424_0 := zH HB.out hx424_0; replace p424 := eq_true p424; replace q424 := eq_true q424; have p425 : 0 ≤ (5 : Int) := (by omega); have q425 : 5 < (l1.length : Int) := dT; obtain ⟨ad425, e425, hx425_0⟩ := Kd.at_int HR1.out 5 p425 q425; obtain rfl : ad419 = ad425 := (by injection e425); (try simp only [show (5 : Int).toNat = 5 from rfl, Nat.reduceMul, Nat.reduceEqDiff, Go.Addr.add, ↓reduceIte] at hx425_0); have qi425 : (5 < l1.length) = True := eq_true (by omega); (try rw [show ((5 : Int)).toNat = 5 from rfl] at hx425_0); replace hx425_0 := zH HB.out hx425_0; replace p425 := eq_true p425; replace q425 := eq_true q425; have p426 : 0 ≤ (6 : Int) := (by omega); have q426 : 6 < (l1.length : Int) := dT; obtain ⟨ad426, e426, hx426_0⟩ := Kd.at_int HR1.out 6 p426 q426; obtain rfl : ad419 = ad426 := (by injection e426); (try simp only [show (6 : Int).toNat = 6 from rfl, Nat.reduceMul, Nat.reduceEqDiff, Go.Addr.add, ↓reduceIte] at hx426_0); have qi426 : (6 < l1.length) = True := eq_true (by omega); (try rw [show ((6 : Int)).toNat = 6 from rfl] at hx426_0); replace hx426_0 := zH HB.out hx426_0; replace p426 := eq_true p426; replace q426 := eq_true q426; have p427 : 0 ≤ (7 : Int) := (by omega); have q427 : 7 < (l1.length : Int) := dT; obtain ⟨ad427, e427, hx427_0⟩ := Kd.at_int HR1.out 7 p427 q427; obtain rfl : ad419 = ad427 := (by injection e427); (try simp only [show (7 : Int).toNat = 7 from rfl, Nat.reduceMul, Nat.reduceEqDiff, Go.Addr.add, ↓reduceIte] at hx427_0); have qi427 : (7 < l1.length) = True := eq_true (by omega); (try rw [show ((7 : Int)).toNat = 7 from rfl] at hx427_0); replace hx427_0 := zH HB.out hx427_0; replace p427 := eq_true p427; replace q427 := eq_true q427)); try go_quiet (first | ((with_reducible refine gate_dst (N := 2) rfl ?_); refine box_event ?hg (N := 2) ?hd (cs := #[]) (t := 72) ?hr ?_; (case hd => rfl); (case hg => rfl); (case hr => first | (go_simp; done) | (go_simp; rfl)); intro gb418 hg w11 hbox hb; have n0_ := Aside0.mk (below_step (zB HB.out) hb); have n1_ := Aside0.mk (hbox); have n2_ := Aside0.mk ((by rw [hg]; exact (below_size (zB HB.out)) : w.heap.size ≤ gb418)); have n3_ := Aside0.mk ((by rw [hg]; exact (below_size (zB HB.out)) : w.heap.size ≤ gb418)); clear HB; have HB := n0_; have BK418 := n1_; have GW418 := n2_; have GE418 := n3_; clear n0_ n1_ n2_ n3_; clear hb hbox hg; have p419 : 0 ≤ (7 : Int) := (by omega); have q419 : 7 < (l1.length : Int) := dT; obtain ⟨ad419, e419, hx419_0⟩ := Kd.at_int HR1.out 7 p419 q419; cases e419; (try simp only [show (7 : Int).toNat = 7 from rfl, Nat.reduceMul, Nat.reduceEqDiff, Go.Addr.add, ↓reduceIte] at hx419_0); have qi419 : (7 < l1.length) = True := eq_true (by omega); (try rw [show ((7 : Int)).toNat = 7 from rfl] at hx419_0); replace hx419_0 := zH HB.out hx419_0; replace p419 := eq_true p419; replace q419 := eq_true q419; have p420 : 0 ≤ (0 : Int) := (by omega); have q420 : 0 < (l1.length : Int) := dT; obtain ⟨ad420, e420, hx420_0⟩ := Kd.at_int HR1.out 0 p420 q420; obtain rfl : ad419 = ad420 := (by injection e420); have qi420 : (0 < l1.length) = True := eq_true (by omega); (try rw [show ((0 : Int)).toNat = 0 from rfl] at hx420_0); (try rw [Addr.add_zero'] at hx420_0); replace hx420_0 := zH HB.out hx420_0; replace p420 := eq_true p420; replace q420 := eq_true q420; have p421 : 0 ≤ (1 : Int) := (by omega); have q421 : 1 < (l1.length : Int) := dT; obtain ⟨ad421, e421, hx421_0⟩ := Kd.at_int HR1.out 1 p421 q421; obtain rfl : ad419 = ad421 := (by injection e421); (try simp only [show (1 : Int).toNat = 1 from rfl, Nat.reduceMul, Nat.reduceEqDiff, Go.Addr.add, ↓reduceIte] at hx421_0); have qi421 : (1 < l1.length) = True := eq_true (by omega); (try rw [show ((1 : Int)).toNat = 1 from rfl] at hx421_0); replace hx421_0 := zH HB.out hx421_0; replace p421 := eq_true p421; replace q421 := eq_true q421; have p422 : 0 ≤ (2 : Int) := (by omega); have q422 : 2 < (l1.length : Int) := dT; obtain ⟨ad422, e422, hx422_0⟩ := Kd.at_int HR1.out 2 p422 q422; obtain rfl : ad419 = ad422 := (by injection e422); (try simp only [show (2 : Int).toNat = 2 from rfl, Nat.reduceMul, Nat.reduceEqDiff, Go.Addr.add, ↓reduceIte] at hx422_0); have qi422 : (2 < l1.length) = True := eq_true (by omega); (try rw [show ((2 : Int)).toNat = 2 from rfl] at hx422_0); replace hx422_0 := zH HB.out hx422_0; replace p422 := eq_true p422; replace q422 := eq_true q422; have p423 : 0 ≤ (3 : Int) := (by omega); have q423 : 3 < (l1.length : Int) := dT; obtain ⟨ad423, e423, hx423_0⟩ := Kd.at_int HR1.out 3 p423 q423; obtain rfl : ad419 = ad423 := (by injection e423); (try simp only [show (3 : Int).toNat = 3 from rfl, Nat.reduceMul, Nat.reduceEqDiff, Go.Addr.add, ↓reduceIte] at hx423_0); have qi423 : (3 < l1.length) = True := eq_true (by omega); (try rw [show ((3 : Int)).toNat = 3 from rfl] at hx423_0); replace hx423_0 := zH HB.out hx423_0; replace p423 := eq_true p423; replace q423 := eq_true q423; have p424 : 0 ≤ (4 : Int) := (by omega); have q424 : 4 < (l1.length : Int) := dT; obtain ⟨ad424, e424, hx424_0⟩ := Kd.at_int HR1.out 4 p424 q424; obtain rfl : ad419 = ad424 := (by injection e424); (try simp only [show (4 : Int).toNat = 4 from rfl, Nat.reduceMul, Nat.reduceEqDiff, Go.Addr.add, ↓reduceIte] at hx424_0); have qi424 : (4 < l1.length) = True := eq_true (by omega); (try rw [show ((4 : Int)).toNat = 4 from rfl] at hx424_0); replace hx424_0 := zH HB.out hx424_0; replace p424 := eq_true p424; replace q424 := eq_true q424; have p425 : 0 ≤ (5 : Int) := (by omega); have q425 : 5 < (l1.length : Int) := dT; obtain ⟨ad425, e425, hx425_0⟩ := Kd.at_int HR1.out 5 p425 q425; obtain rfl : ad419 = ad425 := (by injection e425); (try simp only [show (5 : Int).toNat = 5 from rfl, Nat.reduceMul, Nat.reduceEqDiff, Go.Addr.add, ↓reduceIte] at hx425_0); have qi425 : (5 < l1.length) = True := eq_true (by omega); (try rw [show ((5 : Int)).toNat = 5 from rfl] at hx425_0); replace hx425_0 := zH HB.out hx425_0; replace p425 := eq_true p425; replace q425 := eq_true q425; have p426 : 0 ≤ (6 : Int) := (by omega); have q426 : 6 < (l1.length : Int) := dT; obtain ⟨ad426, e426, hx426_0⟩ := Kd.at_int HR1.out 6 p426 q426; obtain rfl : ad419 = ad426 := (by injection e426); (try simp only [show (6 : Int).toNat = 6 from rfl, Nat.reduceMul, Nat.reduceEqDiff, Go.Addr.add, ↓reduceIte] at hx426_0); have qi426 : (6 < l1.length) = True := eq_true (by omega); (try rw [show ((6 : Int)).toNat = 6 from rfl] at hx426_0); replace hx426_0 := zH HB.out hx426_0; replace p426 := eq_true p426; replace q426 := eq_true q426; have p427 : 0 ≤ (7 : Int) := (by omega); have q427 : 7 < (l1.length : Int) := dT; obtain ⟨ad427, e427, hx427_0⟩ := Kd.at_int HR1.out 7 p427 q427; obtain rfl : ad419 = ad427 := (by injection e427); (try simp only [show (7 : Int).toNat = 7 from rfl, Nat.reduceMul, Nat.reduceEqDiff, Go.Addr.add, ↓reduceIte] at hx427_0); have qi427 : (7 < l1.length) = True := eq_true (by omega); (try rw [show ((7 : Int)).toNat = 7 from rfl] at hx427_0); replace hx427_0 := zH HB.out hx427_0; replace p427 := eq_true p427; replace q427 := eq_true q427)))
         go_ret
         exact ⟨zX, zB HB.out⟩
        rw [if_neg c10] at H
        exact absurd H (by simp)
       rw [if_neg c9] at H
       exact absurd H (by simp)
      rw [if_neg c8] at H
      exact absurd H (by simp)
     rw [if_neg c7] at H
     exact absurd H (by simp)
    rw [if_neg c6] at H
    exact absurd H (by simp)
   rw [if_neg c5] at H
   exact absurd H (by simp)
  rw [if_neg c4] at H
  exact absurd H (by simp)
 rw [if_neg c3] at H
 exact absurd H (by simp)
end Go.Proofs.YtmneeighbkcadaaDoor.PFnJpLength