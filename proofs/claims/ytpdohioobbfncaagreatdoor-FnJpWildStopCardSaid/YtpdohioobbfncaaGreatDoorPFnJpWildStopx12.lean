/- what the Go functions that the law FnJpWildStop reaches compute, each as a plain function, with the proof that the Go code computes just that; no condition beside those that each theorem states. -/
import Derived.Test.YtpdohioobbfncaaGreatDoorPFnJpWildStopx0
import Derived.Test.YtpdohioobbfncaaGreatDoorPFnJpWildStopx6
import Derived.Test.YtpdohioobbfncaaGreatDoorPFnJpWildStopx10
import Derived.Test.YtpdohioobbfncaaGreatDoorPFnJpWildStopx11
namespace Go.Proofs.YtpdohioobbfncaaGreatDoor.PFnJpWildStop
open Go.RowKit Go.Proofs.YtpdohioobbfncaaGreatDoorW.PrintWords Go.Proofs.YtpdohioobbfncaaGreatDoorW.PrintLast Go.Proofs.YtpdohioobbfncaaGreatDoorW.PrintMore
set_option linter.unusedVariables false
set_option linter.unusedSimpArgs false
def jI_.f (a0 : ByteArray) : Option (Bool) := if a0.toList = ([] : List UInt8) then (some false) else (if 0 < (a0.size : Int) then (some ((bt a0 0) == 91)) else (none))
set_option maxHeartbeats 8000000 in
set_option maxRecDepth 100000 in
theorem jI_.calls (a0 : ByteArray) (r : Bool) (w : World) (h : jI_.f a0 = some r) :
    Calls Tryz.prog 16 #[.string a0] w fun e w' => e = .returned (.bool r) ∧ Drawn0 w w' := by
 have H : (if a0.toList = ([] : List UInt8) then (some false) else (if 0 < (a0.size : Int) then (some ((bt a0 0) == 91)) else (none))) = some r := h
 clear h
 by_cases c2 : a0.toList = ([] : List UInt8)
 ·
  rw [if_pos c2] at H
  have c2b0 := beq_iff_eq.mpr c2
  have c2b1 := bne_eq_false_iff_eq.mpr c2
  clear c2
  obtain rfl := Option.some.inj H
  go_enter Tryz.func16, Tryz.ntmps16
  go_wp2
  go_ret
  exact ⟨by first | rfl | (simp; done) | (simp [nil_ne_, nil_eq_]; done) | (simp [*]; done), zD⟩
 rw [if_neg c2] at H
 have c2b0 := beq_eq_false_iff_ne.mpr c2
 have c2b1 := bne_iff_ne.mpr c2
 by_cases c3 : 0 < (a0.size : Int)
 ·
  rw [if_pos c3] at H
  have c3b0 := decide_eq_true c3
  have c3b1 : decide (0 < a0.size) = true := decide_eq_true (by omega)
  clear c3
  obtain rfl := Option.some.inj H
  have p4 : 0 ≤ (0 : Int) := (by omega)
  have q4 : 0 < a0.size := (by have : (0 : Int) < (a0.size : Int) := dT; omega)
  have hx4 := bt_lit a0 0 0 rfl
  clear p4
  have qi4 : (0 < (a0.size : Int)) = True := eq_true (dT)
  replace q4 := eq_true q4
  go_enter Tryz.func16, Tryz.ntmps16
  go_wp2
  go_ret
  exact ⟨by first | rfl | (simp; done) | (simp [nil_ne_, nil_eq_]; done) | (simp [*]; done), zD⟩
 rw [if_neg c3] at H
 exact absurd H (by simp)
mutual
def jF_.j0 : Nat → ByteArray → List ByteArray → Bool → Int → Int → Int → List (S64) → List (S27) → Option (Int × Int × Int × (List (S64)) × (List (S27)) × Bool)
  | 0, _, _, _, _, _, _, _, _ => none
  | k + 1, x0, x1, x23, x405000, x405001, x405002, x405003, x405004 => if x23 = true then (some (0, 0, 0, ([] : List (S64)), ([] : List (S27)), false)) else (jF_.l0 k x0 x1 (x1.length : Int) 0 x405000 x405001 x405002 x405003 x405004)
def jF_.l0 : Nat → ByteArray → List ByteArray → Int → Int → Int → Int → Int → List (S64) → List (S27) → Option (Int × Int × Int × (List (S64)) × (List (S27)) × Bool)
  | 0, _, _, _, _, _, _, _, _, _ => none
  | k + 1, x0, x25, x26, x27, x405000, x405001, x405002, x405003, x405004 => if x27 < x26 then (if 0 ≤ x27 then (if x27 < (x25.length : Int) then (if x405000 = 6 then ((jI_.f (rdOf ByteArray.empty x25 x27)).bind fun t407 => (jF_.j2 k x0 (rdOf ByteArray.empty x25 x27) x25 x26 x27 t407 x405000 x405001 x405002 x405003 x405004)) else (jF_.j2 k x0 (rdOf ByteArray.empty x25 x27) x25 x26 x27 false x405000 x405001 x405002 x405003 x405004)) else (none)) else (none)) else (some (x405000, x405001, x405002, x405003, x405004, true))
def jF_.j2 : Nat → ByteArray → ByteArray → List ByteArray → Int → Int → Bool → Int → Int → Int → List (S64) → List (S27) → Option (Int × Int × Int × (List (S64)) × (List (S27)) × Bool)
  | 0, _, _, _, _, _, _, _, _, _, _, _ => none
  | k + 1, x0, x9, x25, x26, x27, x37, x405000, x405001, x405002, x405003, x405004 => if x37 = true then (some (0, 0, 0, ([] : List (S64)), ([] : List (S27)), false)) else ((SS_.f k x0 x405000 x405001 x405002 x405003 x405004 x9).bind fun bt408 => (if bt408.2.2.2.2.2 = true then (jF_.l0 k x0 x25 x26 (wrap64 (x27 + 1)) bt408.1 bt408.2.1 bt408.2.2.1 bt408.2.2.2.1 bt408.2.2.2.2.1) else (some (0, 0, 0, ([] : List (S64)), ([] : List (S27)), false))))
end
def jF_.f (k : Nat) (a0 : ByteArray) (l1 : List ByteArray) : Option (Int × Int × Int × (List (S64)) × (List (S27)) × Bool) := (jP_.f k a0).bind fun bt394 => (if bt394.2.2.2.2.2 = true then ((OO_.f k a0 bt394.1 bt394.2.1 bt394.2.2.1 bt394.2.2.2.1 bt394.2.2.2.2.1 l1).bind fun t405 => (jF_.j0 k a0 l1 (!t405) bt394.1 bt394.2.1 bt394.2.2.1 bt394.2.2.2.1 bt394.2.2.2.2.1)) else (jF_.j0 k a0 l1 true bt394.1 bt394.2.1 bt394.2.2.1 bt394.2.2.2.1 bt394.2.2.2.2.1))
set_option maxHeartbeats 8000000 in
set_option maxRecDepth 100000 in
theorem jF_.calls (k : Nat) (a0 : ByteArray) (A1 : Option Addr) (c1 : Nat) (l1 : List ByteArray) (r1 : Int) (r2 : Int) (r3 : Int) (r4 : List (S64)) (r5 : List (S27)) (r6 : Bool) (w : World) (hr1 : Kd.C Kd.string w A1 l1.length l1) (hc1 : l1.length ≤ c1) (h : jF_.f k a0 l1 = some (r1, r2, r3, r4, r5, r6)) :
    Calls Tryz.prog 6 #[.string a0, .slice A1 l1.length c1] w fun e w' => ∃ v3_ v4_ : Value, e = .returned (.tuple #[.agg #[.int .i64 r1, .int .i64 r2, .int .i64 r3, v3_, v4_], .bool r6]) ∧ Kd.V k64 64 w' w.heap.size (fun k_ => (w.heap.size ≤ k_)) v3_ r4 ∧ Kd.V k27 27 w' w.heap.size (fun k_ => (w.heap.size ≤ k_)) v4_ r5 ∧ Below w.heap.size w w' := by
 have hu27 := Tryz.underlying27
 have HR1 := Aside0.mk hr1
 have HC1 := Aside0.mk hc1
 clear hr1 hc1
 have HB := Aside0.mk (Below.refl w.heap.size w)
 have H : ((jP_.f k a0).bind fun bt394 => (if bt394.2.2.2.2.2 = true then ((OO_.f k a0 bt394.1 bt394.2.1 bt394.2.2.1 bt394.2.2.2.1 bt394.2.2.2.2.1 l1).bind fun t405 => (jF_.j0 k a0 l1 (!t405) bt394.1 bt394.2.1 bt394.2.2.1 bt394.2.2.2.1 bt394.2.2.2.2.1)) else (jF_.j0 k a0 l1 true bt394.1 bt394.2.1 bt394.2.2.1 bt394.2.2.2.1 bt394.2.2.2.2.1))) = some (r1, r2, r3, r4, r5, r6) := h
 clear h
 replace H := Option.bind_eq_some_iff.mp H
 obtain ⟨⟨t394, t395, t396, t397, t400, t403⟩, A30, H⟩ := H
 try dsimp only at H
 have A3 := Aside0.mk A30
 clear A30
 have HC4 := Aside0.mk H
 clear H
 go_enter Tryz.func6, Tryz.ntmps6
 go_upto_region 2 with (first | ((with_reducible refine gate_dst (N := 4) rfl ?_); refine zbo (N := 4) (cs := #[.int .i64 0, .int .i64 0, .int .i64 0, .slice none 0 0, .slice none 0 0]) (t := 27) ?_; intro gb393 hg w5 hbox hb; have BK393 := Aside0.mk (hbox); have GW393 := zgw hg HB; have GE393 := zgw hg HB; replace HB := zbs HB hb; clear hb hbox hg) | ((with_reducible refine gate_callee (f := 14) rfl ?_); refine goesL_ (some 12) rfl rfl Tryz.func14 (by kernel_rfl) rfl #[.string a0] rfl zM ?_; (with_reducible refine (jP_.calls k a0 t394 t395 t396 t397 t400 t403 _ A3.out).mono ?_); rintro e w6 ⟨v398, v401, rfl, ho0, ho1, hb⟩; refine ⟨_, rfl, ?_⟩; have HO399 := Aside0.mk (Kd.R_lower (Kd.R_newM (M := fun k_ => (w.heap.size ≤ k_)) ho0 (below_size (zB HB.out)) (fun k_ h_ => h_)) (below_size (zB HB.out))); have HO402 := Aside0.mk (Kd.R_lower (Kd.R_newB (Kd.R_newM (M := fun k_ => (w.heap.size ≤ k_)) ho1 (below_size (zB HB.out)) (fun k_ h_ => h_)) (g := gb393) (o := .cells #[.int .i64 0, .int .i64 0, .int .i64 0, .slice none 0 0, .slice none 0 0] 27 (0, 0)) (by (repeat refine zb ?_); exact BK393.out)) (below_size (zB HB.out))); replace BK393 := zbb BK393 hb; replace HB := zbs HB hb; clear hb; (try clear ho0); (try clear ho1)) | ((with_reducible refine gate_dst (N := 6) rfl ?_); refine zbo (N := 6) (cs := #[.int .i64 0, .int .i64 0, .int .i64 0, .slice none 0 0, .slice none 0 0]) (t := 27) ?_; intro gb404 hg w7 hbox hb; replace HO399 := zrb HO399 hb; replace HO402 := Aside0.mk (Kd.R_below (Kd.R_elderB (zR HO402.out) gb404 (Nat.le_of_eq hg.symm)) hb); have BK404 := Aside0.mk (hbox); have GW404 := zgw hg HB; have GE404 := zgw hg HB; replace HB := zbs HB hb; have NB393_404 := znl hg BK393; have NB404_393 := zng hg BK393; replace BK393 := zbb BK393 hb; clear hb hbox hg; have hnb8 := NB404_393.out; have hnc8 := NB393_404.out; have hz9 := zc5 BK404.out; obtain ⟨Ao10, co10, eo10⟩ := Kd.R_slice HO399.out; subst eo10; obtain ⟨Ao11, co11, eo11⟩ := Kd.R_slice HO402.out; subst eo11) | ((with_reducible refine gate_store (t := 27) (p := 6) rfl ?_); refine store_event (t := 27) (p := 6) (v := ?vo_w12) (w1 := (((((w7.setCell ⟨gb404, 0, none⟩ (.int .i64 t394)).setCell ⟨gb404, 1, none⟩ (.int .i64 t395)).setCell ⟨gb404, 2, none⟩ (.int .i64 t396)).setCell ⟨gb404, 3, none⟩ (.slice Ao10 t397.length co10)).setCell ⟨gb404, 4, none⟩ (.slice Ao11 t400.length co11))) ?hg ?ho ?hn ?hr ?_; (case ho => rfl); (case hg => rfl); (case hn => rfl); (case hr => first | (go_simp; done) | (go_simp; rfl)); intro w12 hw; replace HO399 : Aside0 (Kd.R k64 64 w12 w.heap.size (fun k_ => (w.heap.size ≤ k_)) (.slice Ao10 t397.length co10) t397) := ⟨(by rw [hw]; exact (zR (Kd.R_mono (zFR (Kd.R_types HO399.out BK404.out (by decide))) (fun _ hk => hk.1.1))))⟩; replace HO402 : Aside0 (Kd.R k27 27 w12 w.heap.size (fun k_ => (w.heap.size ≤ k_) ∧ some k_ ≠ (.slice Ao10 t397.length co10 : Value).ownBlock ∧ k_ ≠ gb393 ∧ k_ ≠ gb404) (.slice Ao11 t400.length co11) t400) := ⟨(by rw [hw]; exact (zR (Kd.R_mono (zFR (Kd.R_mono HO402.out (fun k_ hk => (⟨hk, hk.2⟩ : _ ∧ k_ ≠ gb404)))) (fun _ hk => ⟨hk.1.1.1.1, ⟨hk.1.1.1.2, ⟨hk.1.1.2, hk.1.2⟩⟩⟩))))⟩; replace BK393 : Aside0 (w12.heap[gb393]? = some (.cells #[.int .i64 0, .int .i64 0, .int .i64 0, .slice none 0 0, .slice none 0 0] 27 (0, 0))) := ⟨(by rw [hw]; exact (zbf BK393 NB393_404))⟩; replace BK404 : Aside0 (w12.heap[gb404]? = some (.cells #[.int .i64 t394, .int .i64 t395, .int .i64 t396, .slice Ao10 t397.length co10, .slice Ao11 t400.length co11] 27 (0, 0))) := ⟨(by rw [hw]; exact (zbp BK404))⟩; replace HB : Aside0 (Below w.heap.size w w12) := ⟨(by rw [hw]; exact (zB HB.out))⟩; clear hw))
 (try simp only [Act.put, List.setIfInBounds_toArray, List.set_cons_zero, List.set_cons_succ])
 go_cut [23] (fun v23 wc => ∃ (kq : Nat) (x23_3 : Bool), v23 = .bool x23_3 ∧ Aside0 (jF_.j0 kq a0 l1 x23_3 t394 t395 t396 t397 t400 = some (r1, r2, r3, r4, r5, r6)) ∧ Aside0 (kq ≤ k) ∧ Aside0 (Kd.R k64 64 wc w.heap.size (fun k_ => (w.heap.size ≤ k_)) (.slice Ao10 t397.length co10) t397) ∧ Aside0 (Kd.R k27 27 wc w.heap.size (fun k_ => (w.heap.size ≤ k_) ∧ k_ ≠ gb393 ∧ k_ ≠ gb404) (.slice Ao11 t400.length co11) t400) ∧ Aside0 (wc.heap[gb393]? = some (.cells #[.int .i64 0, .int .i64 0, .int .i64 0, (.slice none 0 0), (.slice none 0 0)] 27 (0, 0))) ∧ Aside0 (wc.heap[gb404]? = some (.cells #[.int .i64 t394, .int .i64 t395, .int .i64 t396, (.slice Ao10 t397.length co10), (.slice Ao11 t400.length co11)] 27 (0, 0))) ∧ Aside0 (Below w.heap.size w wc))
 case first =>
  have H := HC4.out
  clear HC4
  by_cases c13 : t403 = true
  ·
   subst c13
   rw [if_pos rfl] at H
   replace H := Option.bind_eq_some_iff.mp H
   obtain ⟨t405, A140, H⟩ := H
   try dsimp only at H
   have A14 := Aside0.mk A140
   clear A140
   have H' := Aside0.mk H
   clear H
   have hnb15 := NB404_393.out
   have hnc15 := NB393_404.out
   have hz16 := zc5 BK404.out
   go_wp2_with (first | (go_at_call 15; (with_reducible refine (OO_.calls k a0 t394 t395 t396 (fun k_ => some k_ = (.slice Ao10 t397.length co10 : Value).ownBlock) _ _ t397 (fun k_ => ((w.heap.size ≤ k_) ∧ (some k_ ≠ (.slice Ao10 t397.length co10 : Value).ownBlock ∧ (k_ ≠ gb393 ∧ k_ ≠ gb404)))) _ _ t400 _ _ l1 t405 _ ?side1 ?side2 ?side3 ?side4 A14.out).mono ?_); (case side1 => exact Kd.R_V (Kd.R_tight rfl (Kd.R_types (Kd.R_types (Kd.R_apart' (HO399.out) (Kd.R_typed HO402.out) (by decide)) BK393.out (by decide)) BK404.out (by decide)))); (case side2 => exact Kd.R_V (HO402.out)); (case side3 => exact zkc (Kd.C_below HR1.out HB.out)); (case side4 => exact HC1.out); rintro e w17 ⟨rfl, hb⟩; replace HO399 := zrb HO399 hb; replace HO402 := zrb HO402 hb; replace BK393 := zbb BK393 hb; replace BK404 := zbb BK404 hb; replace HB := zbs HB hb; clear hb))
   go_meet
   case rel => exact ⟨_, (!t405), zE, H', ⟨by first | omega | exact Nat.le_refl _⟩, ⟨by (with_reducible repeat (first | apply Kd.R_alloc | apply Kd.R_drewN | apply Kd.R_drew)); exact HO399.out⟩, ⟨by (with_reducible repeat (first | apply Kd.R_alloc | apply Kd.R_drewN | apply Kd.R_drew)); exact Kd.R_mono HO402.out (fun _ hk => ⟨hk.1, ⟨hk.2.2.1, hk.2.2.2⟩⟩)⟩, ⟨zbx BK393⟩, ⟨zbx BK404⟩, ⟨zB HB.out⟩⟩
  replace c13 := Bool.eq_false_iff.mpr c13
  subst c13
  rw [if_neg Bool.false_ne_true] at H
  have H' := Aside0.mk H
  clear H
  go_wp2
  go_meet
  case rel => exact ⟨_, (true), zE, H', ⟨by first | omega | exact Nat.le_refl _⟩, ⟨by (with_reducible repeat (first | apply Kd.R_alloc | apply Kd.R_drewN | apply Kd.R_drew)); exact HO399.out⟩, ⟨by (with_reducible repeat (first | apply Kd.R_alloc | apply Kd.R_drewN | apply Kd.R_drew)); exact Kd.R_mono HO402.out (fun _ hk => ⟨hk.1, ⟨hk.2.2.1, hk.2.2.2⟩⟩)⟩, ⟨zbx BK393⟩, ⟨zbx BK404⟩, ⟨zB HB.out⟩⟩
 clear HC4
 (try clear c1); (try clear hz9)
 obtain ⟨kq, x23_3, rfl, HA, HJ3, HO_405003, HO_405004, BK393, BK404, HB⟩ := hcut
 rcases kq with _ | kj3
 · exact absurd HA.out (by simp [jF_.j0])
 have H := HA.out
 clear HA
 simp only [jF_.j0] at H
 by_cases c18 : x23_3 = true
 ·
  subst c18
  rw [if_pos rfl] at H
  simp only [Option.some.injEq, Prod.mk.injEq] at H
  obtain ⟨rfl, rfl, rfl, rfl, rfl, rfl⟩ := H
  have hnb19 := NB393_404.out
  have hnc19 := NB404_393.out
  have hz20 := zc5 BK393.out
  go_wp2_with (first | ((with_reducible refine gate_store (t := 27) (p := 4) rfl ?_); refine store_event (t := 27) (p := 4) (v := ?vo_w21) (w1 := (((((wc.setCell ⟨gb393, 0, none⟩ (.int .i64 0)).setCell ⟨gb393, 1, none⟩ (.int .i64 0)).setCell ⟨gb393, 2, none⟩ (.int .i64 0)).setCell ⟨gb393, 3, none⟩ (.slice none 0 0)).setCell ⟨gb393, 4, none⟩ (.slice none 0 0))) ?hg ?ho ?hn ?hr ?_; (case ho => rfl); (case hg => rfl); (case hn => rfl); (case hr => first | (go_simp; done) | (go_simp; rfl)); intro w21 hw; replace HO_405003 : Aside0 (Kd.R k64 64 w21 w.heap.size (fun k_ => (w.heap.size ≤ k_)) (.slice Ao10 t397.length co10) t397) := ⟨(by rw [hw]; exact (zR (Kd.R_mono (zFR (Kd.R_types HO_405003.out BK393.out (by decide))) (fun _ hk => hk.1))))⟩; replace HO_405004 : Aside0 (Kd.R k27 27 w21 w.heap.size (fun k_ => (w.heap.size ≤ k_) ∧ k_ ≠ gb393 ∧ k_ ≠ gb404) (.slice Ao11 t400.length co11) t400) := ⟨(by rw [hw]; exact (zR (Kd.R_mono (zFR (Kd.R_mono HO_405004.out (fun k_ hk => (⟨hk, hk.2.1⟩ : _ ∧ k_ ≠ gb393)))) (fun _ hk => ⟨hk.1.1, ⟨hk.1.2.1, hk.1.2.2⟩⟩))))⟩; replace BK393 : Aside0 (w21.heap[gb393]? = some (.cells #[.int .i64 0, .int .i64 0, .int .i64 0, .slice none 0 0, .slice none 0 0] 27 (0, 0))) := ⟨(by rw [hw]; exact (zbp BK393))⟩; replace BK404 : Aside0 (w21.heap[gb404]? = some (.cells #[.int .i64 t394, .int .i64 t395, .int .i64 t396, .slice Ao10 t397.length co10, .slice Ao11 t400.length co11] 27 (0, 0))) := ⟨(by rw [hw]; exact (zbf BK404 NB404_393))⟩; replace HB : Aside0 (Below w.heap.size w w21) := ⟨(by rw [hw]; exact (zB HB.out))⟩; clear hw))
  refine bodyPost_ret (results_ct rfl _ _ gb393 27 #[.int .i64 0, .int .i64 0, .int .i64 0, .slice none 0 0, .slice none 0 0] (0, 0) _ rfl (by (repeat refine zb ?_); exact BK393.out) Tryz.underlying27 rfl (by kernel_rfl)) rfl ?_
  exact ⟨_, _, zX, Kd.V_nil _ _ _ _ _, Kd.V_nil _ _ _ _ _, zB HB.out⟩
 replace c18 := Bool.eq_false_iff.mpr c18
 subst c18
 rw [if_neg Bool.false_ne_true] at H
 have H' := Aside0.mk H
 clear H
 go_wp2
 try simp only [Act.put, List.setIfInBounds_toArray, List.set_cons_succ, List.set_cons_zero]
 go_loopg [27] kj3 (fun kq v27 w' => ∃ (x27_2 : Int) (x394000_2 : Int) (x394001_2 : Int) (x394002_2 : Int) (x405000_2 : Int) (x405001_2 : Int) (x405002_2 : Int) (x405003_2 : List (S64)) (x405004_2 : List (S27)) (u405003 : Value) (u405004 : Value), v27 = .int .i64 x27_2 ∧ Aside0 (jF_.l0 kq a0 l1 (l1.length : Int) x27_2 x405000_2 x405001_2 x405002_2 x405003_2 x405004_2 = some (r1, r2, r3, r4, r5, r6)) ∧ Aside0 (kq ≤ kj3) ∧ Aside0 (Kd.V k64 64 w' w.heap.size (fun k_ => (w.heap.size ≤ k_) ∧ k_ ≠ gb393 ∧ k_ ≠ gb404) u405003 x405003_2) ∧ Aside0 (Kd.V k27 27 w' w.heap.size (fun k_ => (w.heap.size ≤ k_) ∧ k_ ≠ gb393 ∧ k_ ≠ gb404) u405004 x405004_2) ∧ Aside0 (w'.heap[gb393]? = some (.cells #[.int .i64 x394000_2, .int .i64 x394001_2, .int .i64 x394002_2, (.slice none 0 0), (.slice none 0 0)] 27 (0, 0))) ∧ Aside0 (w'.heap[gb404]? = some (.cells #[.int .i64 x405000_2, .int .i64 x405001_2, .int .i64 x405002_2, u405003, u405004] 27 (0, 0))) ∧ Aside0 (Below w.heap.size w w'))
 case atStart => exact ⟨(0), (0), (0), (0), (t394), (t395), (t396), (t397), (t400), (.slice Ao10 t397.length co10), (.slice Ao11 t400.length co11), zE, H', ⟨Nat.le_refl _⟩, ⟨Kd.R_V (zR (Kd.R_mono (Kd.R_types (Kd.R_types HO_405003.out BK393.out (by decide)) BK404.out (by decide)) (fun _ hk => ⟨hk.1.1, ⟨hk.1.2, hk.2⟩⟩)))⟩, ⟨Kd.R_V (zR HO_405004.out)⟩, ⟨zbx BK393⟩, ⟨zbx BK404⟩, ⟨zB HB.out⟩⟩
 case round =>
  clear H'
  (try clear c1); (try clear c18); (try clear hz9)
  obtain ⟨x27_2, x394000_2, x394001_2, x394002_2, x405000_2, x405001_2, x405002_2, x405003_2, x405004_2, u405003, u405004, rfl, HA, HK2, HO_405003, HO_405004, BK393, BK404, HB⟩ := hrel
  rcases gk with _ | k2
  · exact absurd HA.out (by simp [jF_.l0])
  have H := HA.out
  clear HA
  simp only [jF_.l0] at H
  by_cases c22 : x27_2 < (l1.length : Int)
  ·
   rw [if_pos c22] at H
   have c22b0 := decide_eq_true c22
   clear c22
   by_cases c23 : 0 ≤ x27_2
   ·
    rw [if_pos c23] at H
    have c23b0 := decide_eq_true c23
    clear c23
    by_cases c24 : x27_2 < (l1.length : Int)
    ·
     rw [if_pos c24] at H
     have c24b0 := decide_eq_true c24
     clear c24
     have HC25 := Aside0.mk H
     clear H
     have p406 : 0 ≤ (x27_2 : Int) := dT
     have q406 : x27_2 < (l1.length : Int) := dT
     obtain ⟨ad406, e406, hx406_0⟩ := Kd.at_string HR1.out x27_2 p406 q406
     cases e406
     replace hx406_0 := zH HB.out hx406_0
     replace p406 := eq_true p406
     replace q406 := eq_true q406
     go_upto_region 7 with (fail)
     go_cut [37] (fun v37 wc => ∃ (kq : Nat) (x37_24 : Bool), v37 = .bool x37_24 ∧ Aside0 (jF_.j2 kq a0 (rdOf ByteArray.empty l1 x27_2) l1 (l1.length : Int) x27_2 x37_24 x405000_2 x405001_2 x405002_2 x405003_2 x405004_2 = some (r1, r2, r3, r4, r5, r6)) ∧ Aside0 (kq ≤ k2) ∧ Aside0 (Kd.V k64 64 wc w.heap.size (fun k_ => (w.heap.size ≤ k_) ∧ k_ ≠ gb393 ∧ k_ ≠ gb404) u405003 x405003_2) ∧ Aside0 (Kd.V k27 27 wc w.heap.size (fun k_ => (w.heap.size ≤ k_) ∧ k_ ≠ gb393 ∧ k_ ≠ gb404) u405004 x405004_2) ∧ Aside0 (wc.heap[gb393]? = some (.cells #[.int .i64 x394000_2, .int .i64 x394001_2, .int .i64 x394002_2, (.slice none 0 0), (.slice none 0 0)] 27 (0, 0))) ∧ Aside0 (wc.heap[gb404]? = some (.cells #[.int .i64 x405000_2, .int .i64 x405001_2, .int .i64 x405002_2, u405003, u405004] 27 (0, 0))) ∧ Aside0 (Below w.heap.size w wc))
     case first =>
      have H := HC25.out
      clear HC25
      by_cases c26 : x405000_2 = 6
      ·
       rw [if_pos c26] at H
       have c26b0 := beq_iff_eq.mpr c26
       have c26b1 := bne_eq_false_iff_eq.mpr c26
       clear c26
       (first | rw [c26b0] | (simp only [i64_w, i32_w]; rw [c26b0]) | rw [c26b1] | skip)
       replace H := Option.bind_eq_some_iff.mp H
       obtain ⟨t407, A270, H⟩ := H
       try dsimp only at H
       have A27 := Aside0.mk A270
       clear A270
       have H' := Aside0.mk H
       clear H
       have hnb28 := NB404_393.out
       have hnc28 := NB393_404.out
       have hz29 := zc5 BK404.out
       go_wp2_with (first | (go_at_call 16; (with_reducible refine (jI_.calls (rdOf ByteArray.empty l1 x27_2) t407 _ A27.out).mono ?_); rintro e w' ⟨rfl, ⟨nd, rfl⟩⟩))
       go_meet
       case rel => exact ⟨_, (t407), zE, H', ⟨by have := HJ3.out; have := HK2.out; first | omega | exact Nat.le_refl _⟩, ⟨by (with_reducible repeat (first | apply Kd.V_alloc | apply Kd.V_drewN | apply Kd.V_drew)); exact HO_405003.out⟩, ⟨by (with_reducible repeat (first | apply Kd.V_alloc | apply Kd.V_drewN | apply Kd.V_drew)); exact HO_405004.out⟩, ⟨zbx BK393⟩, ⟨zbx BK404⟩, ⟨zB HB.out⟩⟩
      rw [if_neg c26] at H
      have c26b0 := beq_eq_false_iff_ne.mpr c26
      have c26b1 := bne_iff_ne.mpr c26
      (first | rw [c26b0] | (simp only [i64_w, i32_w]; rw [c26b0]) | rw [c26b1] | skip)
      have H' := Aside0.mk H
      clear H
      have hnb30 := NB404_393.out
      have hnc30 := NB393_404.out
      have hz31 := zc5 BK404.out
      go_wp2
      go_meet
      case rel => exact ⟨_, (false), zE, H', ⟨by have := HJ3.out; have := HK2.out; first | omega | exact Nat.le_refl _⟩, ⟨by (with_reducible repeat (first | apply Kd.V_alloc | apply Kd.V_drewN | apply Kd.V_drew)); exact HO_405003.out⟩, ⟨by (with_reducible repeat (first | apply Kd.V_alloc | apply Kd.V_drewN | apply Kd.V_drew)); exact HO_405004.out⟩, ⟨zbx BK393⟩, ⟨zbx BK404⟩, ⟨zB HB.out⟩⟩
     clear HC25
     (try clear c1); (try clear c18); (try clear c22b0); (try clear c23b0); (try clear c24b0); (try clear hz9); (try clear hx406_0); (try clear p406); (try clear q406)
     obtain ⟨kq, x37_24, rfl, HA, HJ24, HO_405003, HO_405004, BK393, BK404, HB⟩ := hcut
     rcases kq with _ | kj24
     · exact absurd HA.out (by simp [jF_.j2])
     have H := HA.out
     clear HA
     simp only [jF_.j2] at H
     by_cases c32 : x37_24 = true
     ·
      subst c32
      rw [if_pos rfl] at H
      simp only [Option.some.injEq, Prod.mk.injEq] at H
      obtain ⟨rfl, rfl, rfl, rfl, rfl, rfl⟩ := H
      have hnb33 := NB393_404.out
      have hnc33 := NB404_393.out
      have hz34 := zc5 BK393.out
      go_wp2_with (first | ((with_reducible refine gate_store (t := 27) (p := 4) rfl ?_); refine store_event (t := 27) (p := 4) (v := ?vo_w35) (w1 := (((((wc.setCell ⟨gb393, 0, none⟩ (.int .i64 0)).setCell ⟨gb393, 1, none⟩ (.int .i64 0)).setCell ⟨gb393, 2, none⟩ (.int .i64 0)).setCell ⟨gb393, 3, none⟩ (.slice none 0 0)).setCell ⟨gb393, 4, none⟩ (.slice none 0 0))) ?hg ?ho ?hn ?hr ?_; (case ho => rfl); (case hg => rfl); (case hn => rfl); (case hr => first | (go_simp; done) | (go_simp; rfl)); intro w35 hw; replace HO_405003 : Aside0 (Kd.V k64 64 w35 w.heap.size (fun k_ => (w.heap.size ≤ k_) ∧ k_ ≠ gb393 ∧ k_ ≠ gb404) u405003 x405003_2) := ⟨(by rw [hw]; exact (zV (Kd.V_mono (zFV (Kd.V_mono HO_405003.out (fun k_ hk => (⟨hk, hk.2.1⟩ : _ ∧ k_ ≠ gb393)))) (fun _ hk => ⟨hk.1.1, ⟨hk.1.2.1, hk.1.2.2⟩⟩))))⟩; replace HO_405004 : Aside0 (Kd.V k27 27 w35 w.heap.size (fun k_ => (w.heap.size ≤ k_) ∧ k_ ≠ gb393 ∧ k_ ≠ gb404) u405004 x405004_2) := ⟨(by rw [hw]; exact (zV (Kd.V_mono (zFV (Kd.V_mono HO_405004.out (fun k_ hk => (⟨hk, hk.2.1⟩ : _ ∧ k_ ≠ gb393)))) (fun _ hk => ⟨hk.1.1, ⟨hk.1.2.1, hk.1.2.2⟩⟩))))⟩; replace BK393 : Aside0 (w35.heap[gb393]? = some (.cells #[.int .i64 0, .int .i64 0, .int .i64 0, .slice none 0 0, .slice none 0 0] 27 (0, 0))) := ⟨(by rw [hw]; exact (zbp BK393))⟩; replace BK404 : Aside0 (w35.heap[gb404]? = some (.cells #[.int .i64 x405000_2, .int .i64 x405001_2, .int .i64 x405002_2, u405003, u405004] 27 (0, 0))) := ⟨(by rw [hw]; exact (zbf BK404 NB404_393))⟩; replace HB : Aside0 (Below w.heap.size w w35) := ⟨(by rw [hw]; exact (zB HB.out))⟩; clear hw))
      refine bodyPost_ret (results_ct rfl _ _ gb393 27 #[.int .i64 0, .int .i64 0, .int .i64 0, .slice none 0 0, .slice none 0 0] (0, 0) _ rfl (by (repeat refine zb ?_); exact BK393.out) Tryz.underlying27 rfl (by kernel_rfl)) rfl ?_
      exact ⟨_, _, zX, Kd.V_nil _ _ _ _ _, Kd.V_nil _ _ _ _ _, zB HB.out⟩
     replace c32 := Bool.eq_false_iff.mpr c32
     subst c32
     rw [if_neg Bool.false_ne_true] at H
     replace H := Option.bind_eq_some_iff.mp H
     obtain ⟨⟨t408, t409, t410, t411, t414, t417⟩, A360, H⟩ := H
     try dsimp only at H
     have A36 := Aside0.mk A360
     clear A360
     by_cases c37 : t417 = true
     ·
      subst c37
      rw [if_pos rfl] at H
      have H' := Aside0.mk H
      clear H
      have hnb38 := NB404_393.out
      have hnc38 := NB393_404.out
      have hz39 := zc5 BK404.out
      obtain ⟨Ao40, co40, eo40⟩ := Kd.V_slice HO_405003.out
      subst eo40
      obtain ⟨Ao41, co41, eo41⟩ := Kd.V_slice HO_405004.out
      subst eo41
      go_wp2_with (first | ((with_reducible refine gate_callee (f := 17) rfl ?_); refine goesL_ (some 43) rfl rfl Tryz.func17 (by kernel_rfl) rfl #[.string a0, .agg #[.int .i64 x405000_2, .int .i64 x405001_2, .int .i64 x405002_2, .slice Ao40 x405003_2.length co40, .slice Ao41 x405004_2.length co41], .string (rdOf ByteArray.empty l1 x27_2)] rfl zM ?_; (with_reducible refine (SS_.calls kj24 a0 x405000_2 x405001_2 x405002_2 _ _ x405003_2 (fun k_ => ((w.heap.size ≤ k_) ∧ (k_ ≠ gb393 ∧ k_ ≠ gb404))) _ _ x405004_2 (rdOf ByteArray.empty l1 x27_2) t408 t409 t410 t411 t414 true _ ?side1 ?side2 ?side3 A36.out).mono ?_); (case side1 => repeat (first | exact (Kd.V_reads' HO_405003.out).2.2 | (with_reducible refine Kd.C_alloc ?_ _) | (with_reducible refine Kd.C_drewN ?_ _) | (with_reducible refine Kd.C_drew ?_))); (case side2 => exact (Kd.V_reads' HO_405003.out).2.1); (case side3 => exact HO_405004.out); rintro e w42 ⟨v412, v415, rfl, ho0, ho1, hb⟩; refine ⟨_, rfl, ?_⟩; replace HO_405003 := zvb HO_405003 hb; replace HO_405004 := zvb HO_405004 hb; have HO413 := Aside0.mk (Kd.V_lower (Kd.V_mono (ok' := fun k_ => (w.heap.size ≤ k_) ∧ k_ ≠ gb393 ∧ k_ ≠ gb404) ho0 (fun k_ hk_ => ⟨Or.elim hk_ (fun hs_ => hs_.1) (fun hn_ => (Nat.le_trans (below_size (zB HB.out)) hn_)), Or.elim hk_ (fun hs_ => hs_.2.1) (fun hn_ => (Kd.freshB (g := gb393) (o := .cells #[.int .i64 x394000_2, .int .i64 x394001_2, .int .i64 x394002_2, .slice none 0 0, .slice none 0 0] 27 (0, 0)) (by (repeat refine zb ?_); exact BK393.out) k_ hn_)), Or.elim hk_ (fun hs_ => hs_.2.2) (fun hn_ => (Kd.freshB (g := gb404) (o := .cells #[.int .i64 x405000_2, .int .i64 x405001_2, .int .i64 x405002_2, .slice Ao40 x405003_2.length co40, .slice Ao41 x405004_2.length co41] 27 (0, 0)) (by (repeat refine zb ?_); exact BK404.out) k_ hn_))⟩)) (below_size (zB HB.out))); have HO416 := Aside0.mk (Kd.V_lower (Kd.V_mono (ok' := fun k_ => (w.heap.size ≤ k_) ∧ k_ ≠ gb393 ∧ k_ ≠ gb404) ho1 (fun k_ hk_ => ⟨Or.elim hk_ (fun hs_ => hs_.1) (fun hn_ => (Nat.le_trans (below_size (zB HB.out)) hn_)), Or.elim hk_ (fun hs_ => hs_.2.1) (fun hn_ => (Kd.freshB (g := gb393) (o := .cells #[.int .i64 x394000_2, .int .i64 x394001_2, .int .i64 x394002_2, .slice none 0 0, .slice none 0 0] 27 (0, 0)) (by (repeat refine zb ?_); exact BK393.out) k_ hn_)), Or.elim hk_ (fun hs_ => hs_.2.2) (fun hn_ => (Kd.freshB (g := gb404) (o := .cells #[.int .i64 x405000_2, .int .i64 x405001_2, .int .i64 x405002_2, .slice Ao40 x405003_2.length co40, .slice Ao41 x405004_2.length co41] 27 (0, 0)) (by (repeat refine zb ?_); exact BK404.out) k_ hn_))⟩)) (below_size (zB HB.out))); replace BK393 := zbb BK393 hb; replace BK404 := zbb BK404 hb; replace HB := zbs HB hb; clear hb; (try clear ho0); (try clear ho1); have hz43 := zc5 BK404.out; obtain ⟨Ao44, co44, eo44⟩ := Kd.V_slice HO413.out; subst eo44; obtain ⟨Ao45, co45, eo45⟩ := Kd.V_slice HO416.out; subst eo45) | ((with_reducible refine gate_store (t := 27) (p := 6) rfl ?_); refine store_event (t := 27) (p := 6) (v := ?vo_w46) (w1 := (((((w42.setCell ⟨gb404, 0, none⟩ (.int .i64 t408)).setCell ⟨gb404, 1, none⟩ (.int .i64 t409)).setCell ⟨gb404, 2, none⟩ (.int .i64 t410)).setCell ⟨gb404, 3, none⟩ (.slice Ao44 t411.length co44)).setCell ⟨gb404, 4, none⟩ (.slice Ao45 t414.length co45))) ?hg ?ho ?hn ?hr ?_; (case ho => rfl); (case hg => rfl); (case hn => rfl); (case hr => first | (go_simp; done) | (go_simp; rfl)); intro w46 hw; replace HO_405003 : Aside0 (Kd.V k64 64 w46 w.heap.size (fun k_ => (w.heap.size ≤ k_) ∧ k_ ≠ gb393 ∧ k_ ≠ gb404) (.slice Ao40 x405003_2.length co40) x405003_2) := ⟨(by rw [hw]; exact (zV (Kd.V_mono (zFV (Kd.V_mono HO_405003.out (fun k_ hk => (⟨hk, hk.2.2⟩ : _ ∧ k_ ≠ gb404)))) (fun _ hk => ⟨hk.1.1, ⟨hk.1.2.1, hk.1.2.2⟩⟩))))⟩; replace HO_405004 : Aside0 (Kd.V k27 27 w46 w.heap.size (fun k_ => (w.heap.size ≤ k_) ∧ k_ ≠ gb393 ∧ k_ ≠ gb404) (.slice Ao41 x405004_2.length co41) x405004_2) := ⟨(by rw [hw]; exact (zV (Kd.V_mono (zFV (Kd.V_mono HO_405004.out (fun k_ hk => (⟨hk, hk.2.2⟩ : _ ∧ k_ ≠ gb404)))) (fun _ hk => ⟨hk.1.1, ⟨hk.1.2.1, hk.1.2.2⟩⟩))))⟩; replace HO413 : Aside0 (Kd.V k64 64 w46 w.heap.size (fun k_ => (w.heap.size ≤ k_) ∧ k_ ≠ gb393 ∧ k_ ≠ gb404) (.slice Ao44 t411.length co44) t411) := ⟨(by rw [hw]; exact (zV (Kd.V_mono (zFV (Kd.V_mono HO413.out (fun k_ hk => (⟨hk, hk.2.2⟩ : _ ∧ k_ ≠ gb404)))) (fun _ hk => ⟨hk.1.1, ⟨hk.1.2.1, hk.1.2.2⟩⟩))))⟩; replace HO416 : Aside0 (Kd.V k27 27 w46 w.heap.size (fun k_ => (w.heap.size ≤ k_) ∧ k_ ≠ gb393 ∧ k_ ≠ gb404) (.slice Ao45 t414.length co45) t414) := ⟨(by rw [hw]; exact (zV (Kd.V_mono (zFV (Kd.V_mono HO416.out (fun k_ hk => (⟨hk, hk.2.2⟩ : _ ∧ k_ ≠ gb404)))) (fun _ hk => ⟨hk.1.1, ⟨hk.1.2.1, hk.1.2.2⟩⟩))))⟩; replace BK393 : Aside0 (w46.heap[gb393]? = some (.cells #[.int .i64 x394000_2, .int .i64 x394001_2, .int .i64 x394002_2, .slice none 0 0, .slice none 0 0] 27 (0, 0))) := ⟨(by rw [hw]; exact (zbf BK393 NB393_404))⟩; replace BK404 : Aside0 (w46.heap[gb404]? = some (.cells #[.int .i64 t408, .int .i64 t409, .int .i64 t410, .slice Ao44 t411.length co44, .slice Ao45 t414.length co45] 27 (0, 0))) := ⟨(by rw [hw]; exact (zbp BK404))⟩; replace HB : Aside0 (Below w.heap.size w w46) := ⟨(by rw [hw]; exact (zB HB.out))⟩; clear hw))
      go_roundg kj24
      case measure => have := HJ3.out; have := HK2.out; have := HJ24.out; omega
      case rel => exact ⟨(wrap64 (x27_2 + 1)), (x394000_2), (x394001_2), (x394002_2), (t408), (t409), (t410), (t411), (t414), (.slice Ao44 t411.length co44), (.slice Ao45 t414.length co45), zE, H', ⟨by have := HJ3.out; have := HK2.out; have := HJ24.out; omega⟩, ⟨by (with_reducible repeat (first | apply Kd.V_alloc | apply Kd.V_drewN | apply Kd.V_drew)); exact HO413.out⟩, ⟨by (with_reducible repeat (first | apply Kd.V_alloc | apply Kd.V_drewN | apply Kd.V_drew)); exact HO416.out⟩, ⟨zbx BK393⟩, ⟨zbx BK404⟩, ⟨zB HB.out⟩⟩
     replace c37 := Bool.eq_false_iff.mpr c37
     subst c37
     rw [if_neg Bool.false_ne_true] at H
     simp only [Option.some.injEq, Prod.mk.injEq] at H
     obtain ⟨rfl, rfl, rfl, rfl, rfl, rfl⟩ := H
     have hnb47 := NB404_393.out
     have hnc47 := NB393_404.out
     have hz48 := zc5 BK404.out
     obtain ⟨Ao49, co49, eo49⟩ := Kd.V_slice HO_405003.out
     subst eo49
     obtain ⟨Ao50, co50, eo50⟩ := Kd.V_slice HO_405004.out
     subst eo50
     go_wp2_with (first | ((with_reducible refine gate_callee (f := 17) rfl ?_); refine goesL_ (some 43) rfl rfl Tryz.func17 (by kernel_rfl) rfl #[.string a0, .agg #[.int .i64 x405000_2, .int .i64 x405001_2, .int .i64 x405002_2, .slice Ao49 x405003_2.length co49, .slice Ao50 x405004_2.length co50], .string (rdOf ByteArray.empty l1 x27_2)] rfl zM ?_; (with_reducible refine (SS_.calls kj24 a0 x405000_2 x405001_2 x405002_2 _ _ x405003_2 (fun k_ => ((w.heap.size ≤ k_) ∧ (k_ ≠ gb393 ∧ k_ ≠ gb404))) _ _ x405004_2 (rdOf ByteArray.empty l1 x27_2) t408 t409 t410 t411 t414 false _ ?side1 ?side2 ?side3 A36.out).mono ?_); (case side1 => repeat (first | exact (Kd.V_reads' HO_405003.out).2.2 | (with_reducible refine Kd.C_alloc ?_ _) | (with_reducible refine Kd.C_drewN ?_ _) | (with_reducible refine Kd.C_drew ?_))); (case side2 => exact (Kd.V_reads' HO_405003.out).2.1); (case side3 => exact HO_405004.out); rintro e w51 ⟨v412, v415, rfl, ho0, ho1, hb⟩; refine ⟨_, rfl, ?_⟩; replace HO_405003 := zvb HO_405003 hb; replace HO_405004 := zvb HO_405004 hb; have HO413 := Aside0.mk (Kd.V_lower (Kd.V_mono (ok' := fun k_ => (w.heap.size ≤ k_) ∧ k_ ≠ gb393 ∧ k_ ≠ gb404) ho0 (fun k_ hk_ => ⟨Or.elim hk_ (fun hs_ => hs_.1) (fun hn_ => (Nat.le_trans (below_size (zB HB.out)) hn_)), Or.elim hk_ (fun hs_ => hs_.2.1) (fun hn_ => (Kd.freshB (g := gb393) (o := .cells #[.int .i64 x394000_2, .int .i64 x394001_2, .int .i64 x394002_2, .slice none 0 0, .slice none 0 0] 27 (0, 0)) (by (repeat refine zb ?_); exact BK393.out) k_ hn_)), Or.elim hk_ (fun hs_ => hs_.2.2) (fun hn_ => (Kd.freshB (g := gb404) (o := .cells #[.int .i64 x405000_2, .int .i64 x405001_2, .int .i64 x405002_2, .slice Ao49 x405003_2.length co49, .slice Ao50 x405004_2.length co50] 27 (0, 0)) (by (repeat refine zb ?_); exact BK404.out) k_ hn_))⟩)) (below_size (zB HB.out))); have HO416 := Aside0.mk (Kd.V_lower (Kd.V_mono (ok' := fun k_ => (w.heap.size ≤ k_) ∧ k_ ≠ gb393 ∧ k_ ≠ gb404) ho1 (fun k_ hk_ => ⟨Or.elim hk_ (fun hs_ => hs_.1) (fun hn_ => (Nat.le_trans (below_size (zB HB.out)) hn_)), Or.elim hk_ (fun hs_ => hs_.2.1) (fun hn_ => (Kd.freshB (g := gb393) (o := .cells #[.int .i64 x394000_2, .int .i64 x394001_2, .int .i64 x394002_2, .slice none 0 0, .slice none 0 0] 27 (0, 0)) (by (repeat refine zb ?_); exact BK393.out) k_ hn_)), Or.elim hk_ (fun hs_ => hs_.2.2) (fun hn_ => (Kd.freshB (g := gb404) (o := .cells #[.int .i64 x405000_2, .int .i64 x405001_2, .int .i64 x405002_2, .slice Ao49 x405003_2.length co49, .slice Ao50 x405004_2.length co50] 27 (0, 0)) (by (repeat refine zb ?_); exact BK404.out) k_ hn_))⟩)) (below_size (zB HB.out))); replace BK393 := zbb BK393 hb; replace BK404 := zbb BK404 hb; replace HB := zbs HB hb; clear hb; (try clear ho0); (try clear ho1); have hz52 := zc5 BK404.out; obtain ⟨Ao53, co53, eo53⟩ := Kd.V_slice HO413.out; subst eo53; obtain ⟨Ao54, co54, eo54⟩ := Kd.V_slice HO416.out; subst eo54) | ((with_reducible refine gate_store (t := 27) (p := 6) rfl ?_); refine store_event (t := 27) (p := 6) (v := ?vo_w55) (w1 := (((((w51.setCell ⟨gb404, 0, none⟩ (.int .i64 t408)).setCell ⟨gb404, 1, none⟩ (.int .i64 t409)).setCell ⟨gb404, 2, none⟩ (.int .i64 t410)).setCell ⟨gb404, 3, none⟩ (.slice Ao53 t411.length co53)).setCell ⟨gb404, 4, none⟩ (.slice Ao54 t414.length co54))) ?hg ?ho ?hn ?hr ?_; (case ho => rfl); (case hg => rfl); (case hn => rfl); (case hr => first | (go_simp; done) | (go_simp; rfl)); intro w55 hw; replace HO_405003 : Aside0 (Kd.V k64 64 w55 w.heap.size (fun k_ => (w.heap.size ≤ k_) ∧ k_ ≠ gb393 ∧ k_ ≠ gb404) (.slice Ao49 x405003_2.length co49) x405003_2) := ⟨(by rw [hw]; exact (zV (Kd.V_mono (zFV (Kd.V_mono HO_405003.out (fun k_ hk => (⟨hk, hk.2.2⟩ : _ ∧ k_ ≠ gb404)))) (fun _ hk => ⟨hk.1.1, ⟨hk.1.2.1, hk.1.2.2⟩⟩))))⟩; replace HO_405004 : Aside0 (Kd.V k27 27 w55 w.heap.size (fun k_ => (w.heap.size ≤ k_) ∧ k_ ≠ gb393 ∧ k_ ≠ gb404) (.slice Ao50 x405004_2.length co50) x405004_2) := ⟨(by rw [hw]; exact (zV (Kd.V_mono (zFV (Kd.V_mono HO_405004.out (fun k_ hk => (⟨hk, hk.2.2⟩ : _ ∧ k_ ≠ gb404)))) (fun _ hk => ⟨hk.1.1, ⟨hk.1.2.1, hk.1.2.2⟩⟩))))⟩; replace HO413 : Aside0 (Kd.V k64 64 w55 w.heap.size (fun k_ => (w.heap.size ≤ k_) ∧ k_ ≠ gb393 ∧ k_ ≠ gb404) (.slice Ao53 t411.length co53) t411) := ⟨(by rw [hw]; exact (zV (Kd.V_mono (zFV (Kd.V_mono HO413.out (fun k_ hk => (⟨hk, hk.2.2⟩ : _ ∧ k_ ≠ gb404)))) (fun _ hk => ⟨hk.1.1, ⟨hk.1.2.1, hk.1.2.2⟩⟩))))⟩; replace HO416 : Aside0 (Kd.V k27 27 w55 w.heap.size (fun k_ => (w.heap.size ≤ k_) ∧ k_ ≠ gb393 ∧ k_ ≠ gb404) (.slice Ao54 t414.length co54) t414) := ⟨(by rw [hw]; exact (zV (Kd.V_mono (zFV (Kd.V_mono HO416.out (fun k_ hk => (⟨hk, hk.2.2⟩ : _ ∧ k_ ≠ gb404)))) (fun _ hk => ⟨hk.1.1, ⟨hk.1.2.1, hk.1.2.2⟩⟩))))⟩; replace BK393 : Aside0 (w55.heap[gb393]? = some (.cells #[.int .i64 x394000_2, .int .i64 x394001_2, .int .i64 x394002_2, .slice none 0 0, .slice none 0 0] 27 (0, 0))) := ⟨(by rw [hw]; exact (zbf BK393 NB393_404))⟩; replace BK404 : Aside0 (w55.heap[gb404]? = some (.cells #[.int .i64 t408, .int .i64 t409, .int .i64 t410, .slice Ao53 t411.length co53, .slice Ao54 t414.length co54] 27 (0, 0))) := ⟨(by rw [hw]; exact (zbp BK404))⟩; replace HB : Aside0 (Below w.heap.size w w55) := ⟨(by rw [hw]; exact (zB HB.out))⟩; clear hw; have hz56 := zc5 BK393.out) | ((with_reducible refine gate_store (t := 27) (p := 4) rfl ?_); refine store_event (t := 27) (p := 4) (v := ?vo_w57) (w1 := (((((w55.setCell ⟨gb393, 0, none⟩ (.int .i64 0)).setCell ⟨gb393, 1, none⟩ (.int .i64 0)).setCell ⟨gb393, 2, none⟩ (.int .i64 0)).setCell ⟨gb393, 3, none⟩ (.slice none 0 0)).setCell ⟨gb393, 4, none⟩ (.slice none 0 0))) ?hg ?ho ?hn ?hr ?_; (case ho => rfl); (case hg => rfl); (case hn => rfl); (case hr => first | (go_simp; done) | (go_simp; rfl)); intro w57 hw; replace HO_405003 : Aside0 (Kd.V k64 64 w57 w.heap.size (fun k_ => (w.heap.size ≤ k_) ∧ k_ ≠ gb393 ∧ k_ ≠ gb404) (.slice Ao49 x405003_2.length co49) x405003_2) := ⟨(by rw [hw]; exact (zV (Kd.V_mono (zFV (Kd.V_mono HO_405003.out (fun k_ hk => (⟨hk, hk.2.1⟩ : _ ∧ k_ ≠ gb393)))) (fun _ hk => ⟨hk.1.1, ⟨hk.1.2.1, hk.1.2.2⟩⟩))))⟩; replace HO_405004 : Aside0 (Kd.V k27 27 w57 w.heap.size (fun k_ => (w.heap.size ≤ k_) ∧ k_ ≠ gb393 ∧ k_ ≠ gb404) (.slice Ao50 x405004_2.length co50) x405004_2) := ⟨(by rw [hw]; exact (zV (Kd.V_mono (zFV (Kd.V_mono HO_405004.out (fun k_ hk => (⟨hk, hk.2.1⟩ : _ ∧ k_ ≠ gb393)))) (fun _ hk => ⟨hk.1.1, ⟨hk.1.2.1, hk.1.2.2⟩⟩))))⟩; replace HO413 : Aside0 (Kd.V k64 64 w57 w.heap.size (fun k_ => (w.heap.size ≤ k_) ∧ k_ ≠ gb393 ∧ k_ ≠ gb404) (.slice Ao53 t411.length co53) t411) := ⟨(by rw [hw]; exact (zV (Kd.V_mono (zFV (Kd.V_mono HO413.out (fun k_ hk => (⟨hk, hk.2.1⟩ : _ ∧ k_ ≠ gb393)))) (fun _ hk => ⟨hk.1.1, ⟨hk.1.2.1, hk.1.2.2⟩⟩))))⟩; replace HO416 : Aside0 (Kd.V k27 27 w57 w.heap.size (fun k_ => (w.heap.size ≤ k_) ∧ k_ ≠ gb393 ∧ k_ ≠ gb404) (.slice Ao54 t414.length co54) t414) := ⟨(by rw [hw]; exact (zV (Kd.V_mono (zFV (Kd.V_mono HO416.out (fun k_ hk => (⟨hk, hk.2.1⟩ : _ ∧ k_ ≠ gb393)))) (fun _ hk => ⟨hk.1.1, ⟨hk.1.2.1, hk.1.2.2⟩⟩))))⟩; replace BK393 : Aside0 (w57.heap[gb393]? = some (.cells #[.int .i64 0, .int .i64 0, .int .i64 0, .slice none 0 0, .slice none 0 0] 27 (0, 0))) := ⟨(by rw [hw]; exact (zbp BK393))⟩; replace BK404 : Aside0 (w57.heap[gb404]? = some (.cells #[.int .i64 t408, .int .i64 t409, .int .i64 t410, .slice Ao53 t411.length co53, .slice Ao54 t414.length co54] 27 (0, 0))) := ⟨(by rw [hw]; exact (zbf BK404 NB404_393))⟩; replace HB : Aside0 (Below w.heap.size w w57) := ⟨(by rw [hw]; exact (zB HB.out))⟩; clear hw))
     refine bodyPost_ret (results_ct rfl _ _ gb393 27 #[.int .i64 0, .int .i64 0, .int .i64 0, .slice none 0 0, .slice none 0 0] (0, 0) _ rfl (by (repeat refine zb ?_); exact BK393.out) Tryz.underlying27 rfl (by kernel_rfl)) rfl ?_
     exact ⟨_, _, zX, Kd.V_nil _ _ _ _ _, Kd.V_nil _ _ _ _ _, zB HB.out⟩
    rw [if_neg c24] at H
    exact absurd H (by simp)
   rw [if_neg c23] at H
   exact absurd H (by simp)
  rw [if_neg c22] at H
  have c22b0 := decide_eq_false c22
  clear c22
  simp only [Option.some.injEq, Prod.mk.injEq] at H
  obtain ⟨rfl, rfl, rfl, rfl, rfl, rfl⟩ := H
  have hnb58 := NB404_393.out
  have hnc58 := NB393_404.out
  have hz59 := zc5 BK404.out
  have hz60 := zc5 BK393.out
  obtain ⟨Ao61, co61, eo61⟩ := Kd.V_slice HO_405003.out
  subst eo61
  obtain ⟨Ao62, co62, eo62⟩ := Kd.V_slice HO_405004.out
  subst eo62
  go_wp2_with (first | ((with_reducible refine gate_store (t := 27) (p := 4) rfl ?_); refine store_event (t := 27) (p := 4) (v := ?vo_w63) (w1 := (((((wr.setCell ⟨gb393, 0, none⟩ (.int .i64 x405000_2)).setCell ⟨gb393, 1, none⟩ (.int .i64 x405001_2)).setCell ⟨gb393, 2, none⟩ (.int .i64 x405002_2)).setCell ⟨gb393, 3, none⟩ (.slice Ao61 x405003_2.length co61)).setCell ⟨gb393, 4, none⟩ (.slice Ao62 x405004_2.length co62))) ?hg ?ho ?hn ?hr ?_; (case ho => rfl); (case hg => rfl); (case hn => rfl); (case hr => first | (go_simp; done) | (go_simp; rfl)); intro w63 hw; replace HO_405003 : Aside0 (Kd.V k64 64 w63 w.heap.size (fun k_ => (w.heap.size ≤ k_) ∧ k_ ≠ gb393 ∧ k_ ≠ gb404) (.slice Ao61 x405003_2.length co61) x405003_2) := ⟨(by rw [hw]; exact (zV (Kd.V_mono (zFV (Kd.V_mono HO_405003.out (fun k_ hk => (⟨hk, hk.2.1⟩ : _ ∧ k_ ≠ gb393)))) (fun _ hk => ⟨hk.1.1, ⟨hk.1.2.1, hk.1.2.2⟩⟩))))⟩; replace HO_405004 : Aside0 (Kd.V k27 27 w63 w.heap.size (fun k_ => (w.heap.size ≤ k_) ∧ k_ ≠ gb393 ∧ k_ ≠ gb404) (.slice Ao62 x405004_2.length co62) x405004_2) := ⟨(by rw [hw]; exact (zV (Kd.V_mono (zFV (Kd.V_mono HO_405004.out (fun k_ hk => (⟨hk, hk.2.1⟩ : _ ∧ k_ ≠ gb393)))) (fun _ hk => ⟨hk.1.1, ⟨hk.1.2.1, hk.1.2.2⟩⟩))))⟩; replace BK393 : Aside0 (w63.heap[gb393]? = some (.cells #[.int .i64 x405000_2, .int .i64 x405001_2, .int .i64 x405002_2, .slice Ao61 x405003_2.length co61, .slice Ao62 x405004_2.length co62] 27 (0, 0))) := ⟨(by rw [hw]; exact (zbp BK393))⟩; replace BK404 : Aside0 (w63.heap[gb404]? = some (.cells #[.int .i64 x405000_2, .int .i64 x405001_2, .int .i64 x405002_2, .slice Ao61 x405003_2.length co61, .slice Ao62 x405004_2.length co62] 27 (0, 0))) := ⟨(by rw [hw]; exact (zbf BK404 NB404_393))⟩; replace HB : Aside0 (Below w.heap.size w w63) := ⟨(by rw [hw]; exact (zB HB.out))⟩; clear hw))
  refine bodyPost_ret (results_ct rfl _ _ gb393 27 #[.int .i64 x405000_2, .int .i64 x405001_2, .int .i64 x405002_2, .slice Ao61 x405003_2.length co61, .slice Ao62 x405004_2.length co62] (0, 0) _ rfl (by (repeat refine zb ?_); exact BK393.out) Tryz.underlying27 rfl (by kernel_rfl)) rfl ?_
  exact ⟨_, _, zX, by (with_reducible repeat (first | apply Kd.V_alloc | apply Kd.V_drewN | apply Kd.V_drew)); exact Kd.V_mono HO_405003.out (fun _ hk => hk.1), by (with_reducible repeat (first | apply Kd.V_alloc | apply Kd.V_drewN | apply Kd.V_drew)); exact Kd.V_mono HO_405004.out (fun _ hk => hk.1), zB HB.out⟩
def MM_.f (l0 : List ByteArray) (a1 : ByteArray) : Option (List ByteArray) := (some (([] : List ByteArray) : List ByteArray)).bind fun y418 => (if y418.length + l0.length < 8796093022208 then ((some (y418 ++ l0 : List ByteArray)).bind fun y421 => (if y421.length < 8796093022208 then (some (y421 ++ [a1])) else (none))) else (none))
set_option maxHeartbeats 8000000 in
set_option maxRecDepth 100000 in
theorem MM_.calls (A0 : Option Addr) (c0 : Nat) (l0 : List ByteArray) (a1 : ByteArray) (r : List ByteArray) (w : World) (hr0 : Kd.C Kd.string w A0 l0.length l0) (hc0 : l0.length ≤ c0) (h : MM_.f l0 a1 = some r) :
    Calls Tryz.prog 7 #[.slice A0 l0.length c0, .string a1] w fun e w' => ∃ v0_ : Value, e = .returned (v0_) ∧ Kd.R Kd.string 9 w' w.heap.size (fun _ => True) v0_ r ∧ Below w.heap.size w w' := by
 have HR0 := Aside0.mk hr0
 have HC0 := Aside0.mk hc0
 clear hr0 hc0
 have HB := Aside0.mk (Below.refl w.heap.size w)
 have H : ((some (([] : List ByteArray) : List ByteArray)).bind fun y418 => (if y418.length + l0.length < 8796093022208 then ((some (y418 ++ l0 : List ByteArray)).bind fun y421 => (if y421.length < 8796093022208 then (some (y421 ++ [a1])) else (none))) else (none))) = some r := h
 clear h
 obtain ⟨y418, hy418⟩ : ∃ y_ : List ByteArray, y_ = (([] : List ByteArray)) := ⟨_, rfl⟩
 replace H : (if y418.length + l0.length < 8796093022208 then ((some (y418 ++ l0 : List ByteArray)).bind fun y421 => (if y421.length < 8796093022208 then (some (y421 ++ [a1])) else (none))) else (none)) = some r := by first | (rw [hy418]; with_reducible exact H) | (have H2_ := (Option.bind_some _ _).symm.trans H; rw [hy418]; with_reducible exact H2_) | (have H2_ := (Option.bind_some _ _).symm.trans H; with_reducible exact H2_) | with_reducible exact H | (rw [hy418]; exact H) | exact H
 have Ny418 := Aside0.mk hy418
 clear hy418
 by_cases c3 : y418.length + l0.length < 8796093022208
 ·
  rw [if_pos c3] at H
  have LMc3 := Aside0.mk c3
  clear c3
  obtain ⟨y421, hy421⟩ : ∃ y_ : List ByteArray, y_ = (y418 ++ l0) := ⟨_, rfl⟩
  replace H : (if y421.length < 8796093022208 then (some (y421 ++ [a1])) else (none)) = some r := by first | (rw [hy421]; with_reducible exact H) | (have H2_ := (Option.bind_some _ _).symm.trans H; rw [hy421]; with_reducible exact H2_) | (have H2_ := (Option.bind_some _ _).symm.trans H; with_reducible exact H2_) | with_reducible exact H | (rw [hy421]; exact H) | exact H
  have Ny421 := Aside0.mk hy421
  clear hy421
  by_cases c4 : y421.length < 8796093022208
  ·
   rw [if_pos c4] at H
   have LMc4 := Aside0.mk c4
   clear c4
   obtain ⟨y424, hy424⟩ : ∃ y_ : List ByteArray, y_ = (y421 ++ [a1]) := ⟨_, rfl⟩
   replace H : (some y424) = some r := by first | (rw [hy424]; with_reducible exact H) | (have H2_ := (Option.bind_some _ _).symm.trans H; rw [hy424]; with_reducible exact H2_) | (have H2_ := (Option.bind_some _ _).symm.trans H; with_reducible exact H2_) | with_reducible exact H | (rw [hy424]; exact H) | exact H
   have Ny424 := Aside0.mk hy424
   clear hy424
   obtain rfl := Option.some.inj H
   go_enter Tryz.func7, Tryz.ntmps7
   go_wp2_with (first | ((with_reducible refine gate_dst (N := 5) rfl ?_); refine Kd.R_lit Kd.string _ 9 ?hg (N := 5) ?hd (xs := ([] : List ByteArray)) (inner := []) (ok := fun _ => True) (okp := fun _ => True) ?hr ?hp (fun _ hk => hk) trivial (Below.refl _ _) (Nat.le_refl _) (by simp) ?_; (case hd => rfl); (case hg => rfl); (case hr => first | (go_simp; done) | (go_simp; rfl)); (case hp => exact (Reps.none _ _)); intro v419 w5 ho6 hb hg_ hnew_; clear hg_ hnew_; (first | rw [← Ny418.out] at ho6 | (simp only [Int.reduceToNat] at ho6; rw [← Ny418.out] at ho6)); have HO420 := Aside0.mk (Kd.R_lower ho6 (below_size (zB HB.out))); replace HB := zbs HB hb; clear hb ho6) | ((with_reducible refine gate_builtin (b := .append) (xs := #[.tmp 5, .tmp 6]) rfl ?_); at_builtin; refine Kd.R_append_rows Kd.string (w0 := w) w.heap.size rfl (.tmp 5) (.tmp 6) 22 9 (.string ⟨#[]⟩) 16 rfl Tryz.underlying22 info9 rfl (by decide) (by omega) v419 y418 l0 _ _ _ (fun _ => True) (fun _ => False) rfl rfl ?aO ?aR (fun _ _ h => h) (fun _ h => h.elim) ?aF ?aB ?aS ?aL ?_; (case aR => exact zkc (Kd.C_below HR0.out HB.out)); (case aB => exact (zB HB.out)); (case aF => exact (fun _ _ => trivial)); (case aO => exact (zR HO420.out)); (case aS => exact (below_size (zB HB.out))); (case aL => have := LMc3.out; omega); intro v422 w7 ho hb hg hat; rw [← Ny421.out] at ho; replace HB := Aside0.mk (hb); have HO423 := Aside0.mk (ho); clear HO420; clear ho hb hg hat) | ((with_reducible refine gate_builtin (b := .append) (xs := #[.tmp 7, .tmp 9]) rfl ?_); at_builtin; refine Kd.R_append Kd.string (w0 := w) w.heap.size rfl (.tmp 7) (.tmp 9) 22 9 (.string ⟨#[]⟩) 16 rfl Tryz.underlying22 info9 rfl (by decide) (by omega) v422 y421 a1 [.string a1] (fun _ => True) (fun _ => False) rfl rfl ?aP (fun _ hk => hk.elim) ?aF ?aO ?aB ?aS ?aL ?_; (case aP => exact rfl); (case aB => exact (zB HB.out)); (case aF => exact (fun _ _ => trivial)); (case aO => exact (zR HO423.out)); (case aS => exact (below_size (zB HB.out))); (case aL => have := LMc4.out; omega); intro v425 w8 ho hb hg hat; rw [← Ny424.out] at ho; replace HB := Aside0.mk (hb); have HO426 := Aside0.mk (ho); clear HO423; clear ho hb hg hat))
   go_ret
   exact ⟨_, zX, by (with_reducible repeat (first | apply Kd.R_alloc | apply Kd.R_drewN | apply Kd.R_drew)); exact HO426.out, zB HB.out⟩
  rw [if_neg c4] at H
  exact absurd H (by simp)
 rw [if_neg c3] at H
 exact absurd H (by simp)
def nTC_.l0 : Nat → List Int → Int → Int → Option (Int)
  | 0, _, _, _ => none
  | k + 1, x7, x8, x9 => if x9 < x8 then (if 0 ≤ x9 then (if x9 < (x7.length : Int) then (if (rd x7 x9) = 32 then (nTC_.l0 k x7 x8 (wrap64 (x9 + 1))) else (if (rd x7 x9) = 10 then (nTC_.l0 k x7 x8 (wrap64 (x9 + 1))) else (if (rd x7 x9) = 13 then (nTC_.l0 k x7 x8 (wrap64 (x9 + 1))) else (if (rd x7 x9) = 9 then (nTC_.l0 k x7 x8 (wrap64 (x9 + 1))) else (some x9))))) else (none)) else (none)) else (some (-1))
def nTC_.f (k : Nat) (a0_0 : Bool) (a0_1 : Bool) (a0_2 : Int) (l1 : List Int) : Option (Int) := nTC_.l0 k l1 (l1.length : Int) 0
set_option maxHeartbeats 8000000 in
set_option maxRecDepth 100000 in
theorem nTC_.calls (k : Nat) (a0_0 : Bool) (a0_1 : Bool) (a0_2 : Int) (A1 : Option Addr) (c1 : Nat) (l1 : List Int) (r : Int) (w : World) (hr1 : Kd.C (Kd.int .u8) w A1 l1.length l1) (hc1 : l1.length ≤ c1) (h : nTC_.f k a0_0 a0_1 a0_2 l1 = some r) :
    Calls Tryz.prog 48 #[.agg #[.bool a0_0, .bool a0_1, .int .i64 a0_2], .slice A1 l1.length c1] w fun e w' => e = .returned (.int .i64 r) ∧ Below w.heap.size w w' := by
 have hu72 := Tryz.underlying72
 have HR1 := Aside0.mk hr1
 have HC1 := Aside0.mk hc1
 clear hr1 hc1
 have HB := Aside0.mk (Below.refl w.heap.size w)
 have H : (nTC_.l0 k l1 (l1.length : Int) 0) = some r := h
 clear h
 have H' := Aside0.mk H
 clear H
 go_enter Tryz.func48, Tryz.ntmps48
 go_wp2_with (first | ((with_reducible refine gate_dst (N := 2) rfl ?_); refine zbo (N := 2) (cs := #[.bool a0_0, .bool a0_1, .int .i64 a0_2]) (t := 72) ?_; intro gb427 hg w3 hbox hb; have BK427 := Aside0.mk (hbox); have GW427 := zgw hg HB; have GE427 := zgw hg HB; replace HB := zbs HB hb; clear hb hbox hg))
 try simp only [Act.put, List.setIfInBounds_toArray, List.set_cons_succ, List.set_cons_zero]
 go_loopg [9] k (fun kq v9 w' => ∃ (x9_1 : Int), v9 = .int .i64 x9_1 ∧ Aside0 (nTC_.l0 kq l1 (l1.length : Int) x9_1 = some r) ∧ Aside0 (kq ≤ k) ∧ Aside0 (w'.heap[gb427]? = some (.cells #[.bool a0_0, .bool a0_1, .int .i64 a0_2] 72 (0, 0))) ∧ Aside0 (Below w.heap.size w w'))
 case atStart => exact ⟨(0), zE, H', ⟨Nat.le_refl _⟩, ⟨zbx BK427⟩, ⟨zB HB.out⟩⟩
 case round =>
  clear H'
  (try clear c1)
  obtain ⟨x9_1, rfl, HA, HK1, BK427, HB⟩ := hrel
  rcases gk with _ | k1
  · exact absurd HA.out (by simp [nTC_.l0])
  have H := HA.out
  clear HA
  simp only [nTC_.l0] at H
  by_cases c4 : x9_1 < (l1.length : Int)
  ·
   rw [if_pos c4] at H
   have c4b0 := decide_eq_true c4
   clear c4
   by_cases c5 : 0 ≤ x9_1
   ·
    rw [if_pos c5] at H
    have c5b0 := decide_eq_true c5
    clear c5
    by_cases c6 : x9_1 < (l1.length : Int)
    ·
     rw [if_pos c6] at H
     have c6b0 := decide_eq_true c6
     clear c6
     by_cases c7 : (rd l1 x9_1) = 32
     ·
      rw [if_pos c7] at H
      have c7b0 := beq_iff_eq.mpr c7
      have c7b1 := bne_eq_false_iff_eq.mpr c7
      clear c7
      have H' := Aside0.mk H
      clear H
      have p428 : 0 ≤ (x9_1 : Int) := dT
      have q428 : x9_1 < (l1.length : Int) := dT
      obtain ⟨ad428, e428, hx428_0⟩ := Kd.at_int HR1.out x9_1 p428 q428
      cases e428
      replace hx428_0 := zH HB.out hx428_0
      replace p428 := eq_true p428
      replace q428 := eq_true q428
      go_wp2
      go_roundg k1
      case measure => have := HK1.out; omega
      case rel => exact ⟨(wrap64 (x9_1 + 1)), zE, H', ⟨by have := HK1.out; omega⟩, ⟨zbx BK427⟩, ⟨zB HB.out⟩⟩
     rw [if_neg c7] at H
     have c7b0 := beq_eq_false_iff_ne.mpr c7
     have c7b1 := bne_iff_ne.mpr c7
     by_cases c8 : (rd l1 x9_1) = 10
     ·
      rw [if_pos c8] at H
      have c8b0 := beq_iff_eq.mpr c8
      have c8b1 := bne_eq_false_iff_eq.mpr c8
      clear c8
      have H' := Aside0.mk H
      clear H
      have p428 : 0 ≤ (x9_1 : Int) := dT
      have q428 : x9_1 < (l1.length : Int) := dT
      obtain ⟨ad428, e428, hx428_0⟩ := Kd.at_int HR1.out x9_1 p428 q428
      cases e428
      replace hx428_0 := zH HB.out hx428_0
      replace p428 := eq_true p428
      replace q428 := eq_true q428
      go_wp2
      go_roundg k1
      case measure => have := HK1.out; omega
      case rel => exact ⟨(wrap64 (x9_1 + 1)), zE, H', ⟨by have := HK1.out; omega⟩, ⟨zbx BK427⟩, ⟨zB HB.out⟩⟩
     rw [if_neg c8] at H
     have c8b0 := beq_eq_false_iff_ne.mpr c8
     have c8b1 := bne_iff_ne.mpr c8
     by_cases c9 : (rd l1 x9_1) = 13
     ·
      rw [if_pos c9] at H
      have c9b0 := beq_iff_eq.mpr c9
      have c9b1 := bne_eq_false_iff_eq.mpr c9
      clear c9
      have H' := Aside0.mk H
      clear H
      have p428 : 0 ≤ (x9_1 : Int) := dT
      have q428 : x9_1 < (l1.length : Int) := dT
      obtain ⟨ad428, e428, hx428_0⟩ := Kd.at_int HR1.out x9_1 p428 q428
      cases e428
      replace hx428_0 := zH HB.out hx428_0
      replace p428 := eq_true p428
      replace q428 := eq_true q428
      go_wp2
      go_roundg k1
      case measure => have := HK1.out; omega
      case rel => exact ⟨(wrap64 (x9_1 + 1)), zE, H', ⟨by have := HK1.out; omega⟩, ⟨zbx BK427⟩, ⟨zB HB.out⟩⟩
     rw [if_neg c9] at H
     have c9b0 := beq_eq_false_iff_ne.mpr c9
     have c9b1 := bne_iff_ne.mpr c9
     by_cases c10 : (rd l1 x9_1) = 9
     ·
      rw [if_pos c10] at H
      have c10b0 := beq_iff_eq.mpr c10
      have c10b1 := bne_eq_false_iff_eq.mpr c10
      clear c10
      have H' := Aside0.mk H
      clear H
      have p428 : 0 ≤ (x9_1 : Int) := dT
      have q428 : x9_1 < (l1.length : Int) := dT
      obtain ⟨ad428, e428, hx428_0⟩ := Kd.at_int HR1.out x9_1 p428 q428
      cases e428
      replace hx428_0 := zH HB.out hx428_0
      replace p428 := eq_true p428
      replace q428 := eq_true q428
      go_wp2
      go_roundg k1
      case measure => have := HK1.out; omega
      case rel => exact ⟨(wrap64 (x9_1 + 1)), zE, H', ⟨by have := HK1.out; omega⟩, ⟨zbx BK427⟩, ⟨zB HB.out⟩⟩
     rw [if_neg c10] at H
     have c10b0 := beq_eq_false_iff_ne.mpr c10
     have c10b1 := bne_iff_ne.mpr c10
     obtain rfl := Option.some.inj H
     have p428 : 0 ≤ (x9_1 : Int) := dT
     have q428 : x9_1 < (l1.length : Int) := dT
     obtain ⟨ad428, e428, hx428_0⟩ := Kd.at_int HR1.out x9_1 p428 q428
     cases e428
     replace hx428_0 := zH HB.out hx428_0
     replace p428 := eq_true p428
     replace q428 := eq_true q428
     go_wp2
     go_ret
     exact ⟨zX, zB HB.out⟩
    rw [if_neg c6] at H
    exact absurd H (by simp)
   rw [if_neg c5] at H
   exact absurd H (by simp)
  rw [if_neg c4] at H
  have c4b0 := decide_eq_false c4
  clear c4
  obtain rfl := Option.some.inj H
  go_wp2
  go_ret
  exact ⟨zX, zB HB.out⟩
end Go.Proofs.YtpdohioobbfncaaGreatDoor.PFnJpWildStop