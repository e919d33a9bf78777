/- what the Go functions that the law FnJpWildStop reaches compute, each as a plain function, with the proof that the Go code computes just that; no condition beside those that each theorem states. -/
import Derived.Test.YtpdohioobbfncaaGreatDoorPFnJpWildStopx0
import Derived.Test.YtpdohioobbfncaaGreatDoorPFnJpWildStopx13
import Derived.Test.YtpdohioobbfncaaGreatDoorGXFnJpWildStop
namespace Go.Proofs.YtpdohioobbfncaaGreatDoor.PFnJpWildStop
open Go.RowKit Go.Proofs.YtpdohioobbfncaaGreatDoorW.PrintWords Go.Proofs.YtpdohioobbfncaaGreatDoorW.PrintLast Go.Proofs.YtpdohioobbfncaaGreatDoorW.PrintMore
set_option linter.unusedVariables false
set_option linter.unusedSimpArgs false
mutual
def sEC_.j1 : Nat → List Int → Int → Int → Int → Option (Int × Bool)
  | 0, _, _, _, _ => none
  | k + 1, x1, x2, x10, x11 => sEC_.l1 k x1 x2 x10 x11 false
def sEC_.l1 : Nat → List Int → Int → Int → Int → Bool → Option (Int × Bool)
  | 0, _, _, _, _, _ => none
  | k + 1, x1, x2, x10, x11, x17 => if x10 < x11 then (if 0 ≤ x10 then (if x10 < (x1.length : Int) then (if (rd x1 x10) > 92 then (sEC_.l1 k x1 x2 (wrap64 (x10 + 1)) x11 x17) else (if (rd x1 x10) = x2 then (if x17 = true then (sEC_.l2 k x1 x2 x10 x11 x17 (wrap64 (x10 - 1))) else (some (wrap64 (x10 + 1), false))) else (if (rd x1 x10) = 92 then (sEC_.l1 k x1 x2 (wrap64 (x10 + 1)) x11 true) else (sEC_.l1 k x1 x2 (wrap64 (x10 + 1)) x11 x17)))) else (none)) else (none)) else (some ((-1), x17))
def sEC_.l2 : Nat → List Int → Int → Int → Int → Bool → Int → Option (Int × Bool)
  | 0, _, _, _, _, _, _ => none
  | k + 1, x1, x2, x10, x11, x17, x19 => if x19 < 0 then (sEC_.j4 k x1 x2 x10 x11 x17 x19 true) else (if 0 ≤ x19 then (if x19 < (x1.length : Int) then (sEC_.j4 k x1 x2 x10 x11 x17 x19 ((rd x1 x19) != 92)) else (none)) else (none))
def sEC_.j4 : Nat → List Int → Int → Int → Int → Bool → Int → Bool → Option (Int × Bool)
  | 0, _, _, _, _, _, _, _ => none
  | k + 1, x1, x2, x10, x11, x17, x19, x89 => if x89 = true then (some (wrap64 (x10 + 1), true)) else (if (wrap64 (x19 - 1)) < 0 then (sEC_.l1 k x1 x2 (wrap64 (x10 + 1)) x11 x17) else (if 0 ≤ (wrap64 (x19 - 1)) then (if (wrap64 (x19 - 1)) < (x1.length : Int) then (if (rd x1 (wrap64 (x19 - 1))) = 92 then (sEC_.l2 k x1 x2 x10 x11 x17 (wrap64 ((wrap64 (x19 - 1)) - 1))) else (sEC_.l1 k x1 x2 (wrap64 (x10 + 1)) x11 x17)) else (none)) else (none)))
def sEC_.l0 : Nat → List Int → Int → Int → Int → Int → Int → Option (Int × Bool)
  | 0, _, _, _, _, _, _ => none
  | k + 1, x1, x2, x8, x9, x10, x11 => if (wrap64 (x10 + 8)) ≤ x11 then (if 0 ≤ x10 then (if x10 ≤ (x1.length : Int) then ((UU_.f () (x1.drop (x10 : Int).toNat)).bind fun t441 => (if (Go.bits .or .u64 (Go.bits .and .u64 (Go.bits .and .u64 (IntKind.u64.wrap ((Go.bits .xor .u64 t441 x8) - 72340172838076673)) (Go.bits .xor .u64 IntKind.u64.max (Go.bits .xor .u64 t441 x8))) 9259542123273814144) (Go.bits .and .u64 (Go.bits .and .u64 (IntKind.u64.wrap ((Go.bits .xor .u64 t441 x9) - 72340172838076673)) (Go.bits .xor .u64 IntKind.u64.max (Go.bits .xor .u64 t441 x9))) 9259542123273814144)) = 0 then (sEC_.l0 k x1 x2 x8 x9 (wrap64 (x10 + 8)) x11) else (sEC_.j1 k x1 x2 x10 x11))) else (none)) else (none)) else (sEC_.j1 k x1 x2 x10 x11)
end
def sEC_.f (k : Nat) (a0_0 : Bool) (a0_1 : Bool) (a0_2 : Int) (l1 : List Int) (a2 : Int) : Option (Int × Bool) := sEC_.l0 k l1 a2 (IntKind.u64.wrap ((IntKind.u64.wrap (a2)) * 72340172838076673)) 6655295901103053916 0 (l1.length : Int)
set_option maxHeartbeats 8000000 in
set_option maxRecDepth 100000 in
theorem sEC_.calls (k : Nat) (a0_0 : Bool) (a0_1 : Bool) (a0_2 : Int) (A1 : Option Addr) (c1 : Nat) (l1 : List Int) (a2 : Int) (r1 : Int) (r2 : Bool) (w : World) (hr1 : Kd.C (Kd.int .u8) w A1 l1.length l1) (hc1 : l1.length ≤ c1) (h : sEC_.f k a0_0 a0_1 a0_2 l1 a2 = some (r1, r2)) (hG : Glob w) :
    Calls Tryz.prog 53 #[.agg #[.bool a0_0, .bool a0_1, .int .i64 a0_2], .slice A1 l1.length c1, .int .u8 a2] w fun e w' => e = .returned (.tuple #[.int .i64 r1, .bool r2]) ∧ Below w.heap.size w w' := by
 have hu72 := Tryz.underlying72
 have HR1 := Aside0.mk hr1
 have HC1 := Aside0.mk hc1
 clear hr1 hc1
 have HB := Aside0.mk (Below.refl w.heap.size w)
 have hsxu64 : (IntKind.u64.signed = true) = False := eq_false (by decide)
 have HG := Aside0.mk hG
 clear hG
 have H : (sEC_.l0 k l1 a2 (IntKind.u64.wrap ((IntKind.u64.wrap (a2)) * 72340172838076673)) 6655295901103053916 0 (l1.length : Int)) = some (r1, r2) := h
 clear h
 have HC4 := Aside0.mk H
 clear H
 go_enter Tryz.func53, Tryz.ntmps53
 go_upto_block 0 with (first | ((with_reducible refine gate_dst (N := 3) rfl ?_); refine zbo (N := 3) (cs := #[.bool a0_0, .bool a0_1, .int .i64 a0_2]) (t := 72) ?_; intro gb439 hg w5 hbox hb; have BK439 := Aside0.mk (hbox); have GW439 := zgw hg HB; have GE439 := zgw hg HB; replace HB := zbs HB hb; clear hb hbox hg))
 (try simp only [Act.put, List.setIfInBounds_toArray, List.set_cons_zero, List.set_cons_succ])
 go_cut [10] (fun v10 wc => ∃ (kq : Nat) (x10_3 : Int), v10 = .int .i64 x10_3 ∧ Aside0 (sEC_.j1 kq l1 a2 x10_3 (l1.length : Int) = some (r1, r2)) ∧ Aside0 (kq ≤ k) ∧ Aside0 (wc.heap[gb439]? = some (.cells #[.bool a0_0, .bool a0_1, .int .i64 a0_2] 72 (0, 0))) ∧ Aside0 (Below w.heap.size w wc))
 case first =>
  have H := HC4.out
  clear HC4
  have H' := Aside0.mk H
  clear H
  go_wp2
  try simp only [Act.put, List.setIfInBounds_toArray, List.set_cons_succ, List.set_cons_zero]
  go_loopg [10] k (fun kq v10 w' => ∃ (x10_1 : Int), v10 = .int .i64 x10_1 ∧ Aside0 (sEC_.l0 kq l1 a2 (IntKind.u64.wrap ((IntKind.u64.wrap (a2)) * 72340172838076673)) 6655295901103053916 x10_1 (l1.length : Int) = some (r1, r2)) ∧ Aside0 (kq ≤ k) ∧ Aside0 (w'.heap[gb439]? = some (.cells #[.bool a0_0, .bool a0_1, .int .i64 a0_2] 72 (0, 0))) ∧ Aside0 (Below w.heap.size w w'))
  case atStart => exact ⟨(0), zE, H', ⟨Nat.le_refl _⟩, ⟨zbx BK439⟩, ⟨zB HB.out⟩⟩
  case round =>
   clear H'
   (try clear c1)
   obtain ⟨x10_1, rfl, HA, HK1, BK439, HB⟩ := hrel
   rcases gk with _ | k1
   · exact absurd HA.out (by simp [sEC_.l0])
   have H := HA.out
   clear HA
   simp only [sEC_.l0] at H
   by_cases c6 : (wrap64 (x10_1 + 8)) ≤ (l1.length : Int)
   ·
    rw [if_pos c6] at H
    have c6b0 := decide_eq_true c6
    clear c6
    (first | rw [c6b0] | (simp only [i64_w, i32_w]; rw [c6b0]) | rw [c6b1] | skip)
    by_cases c7 : 0 ≤ x10_1
    ·
     rw [if_pos c7] at H
     have c7b0 := eq_true c7
     have c7b1 := decide_eq_true c7
     clear c7
     by_cases c8 : x10_1 ≤ (l1.length : Int)
     ·
      rw [if_pos c8] at H
      have c8b0 := eq_true c8
      have c8b1 := decide_eq_true c8
      clear c8
      replace H := Option.bind_eq_some_iff.mp H
      obtain ⟨t441, A90, H⟩ := H
      try dsimp only at H
      have A9 := Aside0.mk A90
      clear A90
      by_cases c10 : (Go.bits .or .u64 (Go.bits .and .u64 (Go.bits .and .u64 (IntKind.u64.wrap ((Go.bits .xor .u64 t441 (IntKind.u64.wrap ((IntKind.u64.wrap (a2)) * 72340172838076673))) - 72340172838076673)) (Go.bits .xor .u64 IntKind.u64.max (Go.bits .xor .u64 t441 (IntKind.u64.wrap ((IntKind.u64.wrap (a2)) * 72340172838076673))))) 9259542123273814144) (Go.bits .and .u64 (Go.bits .and .u64 (IntKind.u64.wrap ((Go.bits .xor .u64 t441 6655295901103053916) - 72340172838076673)) (Go.bits .xor .u64 IntKind.u64.max (Go.bits .xor .u64 t441 6655295901103053916))) 9259542123273814144)) = 0
      ·
       rw [if_pos c10] at H
       have c10b0 := beq_iff_eq.mpr c10
       have c10b1 := bne_eq_false_iff_eq.mpr c10
       clear c10
       have H' := Aside0.mk H
       clear H
       try go_wp2
       have n0_ := Aside0.mk (blk_drew BK439.out)
       have n1_ := Aside0.mk (below_drew1 HB.out)
       clear BK439
       clear HB
       have BK439 := n0_
       have HB := n1_
       clear n0_ n1_
       obtain ⟨i012, hi012, _, hsz12, _⟩ := info_parts info5
       obtain ⟨A12, hcut12, hA12, hC12⟩ := print_drop_of (P := Tryz.prog) (Value.int .u8) 0 51 5 .i64 Tryz.underlying51 hi012 hsz12 A1 c1 l1 x10_1 (dT) (dT) HC1.out
       have HR440 := Aside0.mk (Kd.C_of_reads (h1 := fun _ => rfl) (hA12 _ (Kd.reads_of_C HR1.out)))
       have HC440 := Aside0.mk hC12
       clear hA12 hC12 hi012 hsz12
       refine start_ (n := 6) (S := fun w' => True) (ds := []) #[false, false, false, false, false, false] (by kernel_rfl) rfl rfl trivial (fun hHeld => ?_)
       generalize wr.drew = w11 at BK439 HB HR440 hHeld ⊢
       refine pure_ (i := 1) (N := some 30) (v := ?_) (a' := ?_) #[false, true, false, false, false, false] rfl rfl (by kernel_rfl) (fun _ _ _ h => h) (Or.inl ⟨by rfl, ?_⟩) ?_ ?_
       rotate_left
       ·
        intro w'
        go_simp
        with_reducible rfl
       rotate_left
       ·
        simp only [Act.put, List.setIfInBounds_toArray, List.set_cons_zero, List.set_cons_succ, i64_w, i32_w]
        rfl
       refine pure_ (i := 2) (N := some 31) (v := ?_) (a' := ?_) #[false, true, true, false, false, false] rfl rfl (by kernel_rfl) (fun _ _ _ h => h) (Or.inl ⟨by rfl, ?_⟩) ?_ ?_
       rotate_left
       ·
        intro w'
        go_simp
        with_reducible rfl
       rotate_left
       ·
        simp only [Act.put, List.setIfInBounds_toArray, List.set_cons_zero, List.set_cons_succ, i64_w, i32_w]
        rfl
       refine pure_ (i := 3) (N := some 32) (v := ?_) (a' := ?_) #[false, true, true, true, false, false] rfl rfl (by kernel_rfl) (fun _ _ _ h => h) (Or.inl ⟨by rfl, ?_⟩) ?_ ?_
       rotate_left
       ·
        intro w'
        go_simp
        with_reducible rfl
       rotate_left
       ·
        simp only [Act.put, List.setIfInBounds_toArray, List.set_cons_zero, List.set_cons_succ, i64_w, i32_w]
        rfl
       refine take_ (i := 0) (N := some 29) (v := ?_) (a' := ?_) #[true, true, true, true, false, false] rfl rfl (by kernel_rfl) (fun _ _ _ h => h) (Or.inl ⟨by rfl, ?_⟩) hHeld ?_ ?_
       rotate_left
       ·
        intro w' _
        go_simp
        with_reducible rfl
       rotate_left
       ·
        simp only [Act.put, List.setIfInBounds_toArray, List.set_cons_zero, List.set_cons_succ, i64_w, i32_w]
        rfl
       refine one_ (i := 4) (N := some 33) #[true, true, true, true, true, false] rfl rfl (by kernel_rfl) (by decide) (fun K hK => ?_)
       refine goes_ Tryz.func73 (by kernel_rfl) rfl #[.agg #[], .slice A12 (l1.drop (x10_1 : Int).toNat).length (c1 - x10_1.toNat)] (by rfl) rfl rfl (by (try simp only [List.map_toArray, List.map_cons, List.map_nil]); first | done | (rw [show (l1.drop (x10_1 : Int).toNat).length = (l1.length - x10_1.toNat) from List.length_drop] <;> rfl) | rfl | (simp only [List.length_drop, List.length_take]; rfl)) ?_
       with_reducible refine (UU_.calls () _ _ (l1.drop (x10_1 : Int).toNat) t441 _ ?side1 ?side2 A9.out).mono ?_
       (case side1 => exact zkc (Kd.C_below HR440.out HB.out))
       (case side2 => exact HC440.out)
       rintro e w13 ⟨rfl, hb⟩
       refine ⟨_, rfl, ?_⟩
       have n0_ := zbb BK439 hb
       have n1_ := zbs HB hb
       clear BK439
       clear HB
       have BK439 := n0_
       have HB := n1_
       clear n0_ n1_
       (try clear hb)
       (try clear hb2)
       (try clear hk)
       (try clear hi)
       refine hK.out _ _ trivial (fun hHeld => ?_)
       clear hK K
       refine norm_ (a' := ?_) ?_ ?_
       rotate_left
       ·
        show Act.put _ (some 33) _ = _
        simp only [Act.put, List.setIfInBounds_toArray, List.set_cons_zero, List.set_cons_succ, i64_w, i32_w]
        rfl
       refine pure_ (i := 5) (N := some 12) (v := ?_) (a' := ?_) #[true, true, true, true, true, true] rfl rfl (by kernel_rfl) (fun _ _ _ h => h) (Or.inl ⟨by rfl, ?_⟩) ?_ ?_
       rotate_left
       ·
        intro w'
        go_simp
        with_reducible rfl
       rotate_left
       ·
        simp only [Act.put, List.setIfInBounds_toArray, List.set_cons_zero, List.set_cons_succ, i64_w, i32_w]
        rfl
       refine done_ (by kernel_rfl) ?_
       try go_wp2
       go_roundg k1
       case measure => have := HK1.out; omega
       case rel => exact ⟨(wrap64 (x10_1 + 8)), zE, H', ⟨by have := HK1.out; omega⟩, ⟨zbx BK439⟩, ⟨zB HB.out⟩⟩
      rw [if_neg c10] at H
      have c10b0 := beq_eq_false_iff_ne.mpr c10
      have c10b1 := bne_iff_ne.mpr c10
      have H' := Aside0.mk H
      clear H
      try go_wp2
      have n0_ := Aside0.mk (blk_drew BK439.out)
      have n1_ := Aside0.mk (below_drew1 HB.out)
      clear BK439
      clear HB
      have BK439 := n0_
      have HB := n1_
      clear n0_ n1_
      obtain ⟨i015, hi015, _, hsz15, _⟩ := info_parts info5
      obtain ⟨A15, hcut15, hA15, hC15⟩ := print_drop_of (P := Tryz.prog) (Value.int .u8) 0 51 5 .i64 Tryz.underlying51 hi015 hsz15 A1 c1 l1 x10_1 (dT) (dT) HC1.out
      have HR440 := Aside0.mk (Kd.C_of_reads (h1 := fun _ => rfl) (hA15 _ (Kd.reads_of_C HR1.out)))
      have HC440 := Aside0.mk hC15
      clear hA15 hC15 hi015 hsz15
      refine start_ (n := 6) (S := fun w' => True) (ds := []) #[false, false, false, false, false, false] (by kernel_rfl) rfl rfl trivial (fun hHeld => ?_)
      generalize wr.drew = w14 at BK439 HB HR440 hHeld ⊢
      refine pure_ (i := 1) (N := some 30) (v := ?_) (a' := ?_) #[false, true, false, false, false, false] rfl rfl (by kernel_rfl) (fun _ _ _ h => h) (Or.inl ⟨by rfl, ?_⟩) ?_ ?_
      rotate_left
      ·
       intro w'
       go_simp
       with_reducible rfl
      rotate_left
      ·
       simp only [Act.put, List.setIfInBounds_toArray, List.set_cons_zero, List.set_cons_succ, i64_w, i32_w]
       rfl
      refine pure_ (i := 2) (N := some 31) (v := ?_) (a' := ?_) #[false, true, true, false, false, false] rfl rfl (by kernel_rfl) (fun _ _ _ h => h) (Or.inl ⟨by rfl, ?_⟩) ?_ ?_
      rotate_left
      ·
       intro w'
       go_simp
       with_reducible rfl
      rotate_left
      ·
       simp only [Act.put, List.setIfInBounds_toArray, List.set_cons_zero, List.set_cons_succ, i64_w, i32_w]
       rfl
      refine pure_ (i := 3) (N := some 32) (v := ?_) (a' := ?_) #[false, true, true, true, false, false] rfl rfl (by kernel_rfl) (fun _ _ _ h => h) (Or.inl ⟨by rfl, ?_⟩) ?_ ?_
      rotate_left
      ·
       intro w'
       go_simp
       with_reducible rfl
      rotate_left
      ·
       simp only [Act.put, List.setIfInBounds_toArray, List.set_cons_zero, List.set_cons_succ, i64_w, i32_w]
       rfl
      refine take_ (i := 0) (N := some 29) (v := ?_) (a' := ?_) #[true, true, true, true, false, false] rfl rfl (by kernel_rfl) (fun _ _ _ h => h) (Or.inl ⟨by rfl, ?_⟩) hHeld ?_ ?_
      rotate_left
      ·
       intro w' _
       go_simp
       with_reducible rfl
      rotate_left
      ·
       simp only [Act.put, List.setIfInBounds_toArray, List.set_cons_zero, List.set_cons_succ, i64_w, i32_w]
       rfl
      refine one_ (i := 4) (N := some 33) #[true, true, true, true, true, false] rfl rfl (by kernel_rfl) (by decide) (fun K hK => ?_)
      refine goes_ Tryz.func73 (by kernel_rfl) rfl #[.agg #[], .slice A15 (l1.drop (x10_1 : Int).toNat).length (c1 - x10_1.toNat)] (by rfl) rfl rfl (by (try simp only [List.map_toArray, List.map_cons, List.map_nil]); first | done | (rw [show (l1.drop (x10_1 : Int).toNat).length = (l1.length - x10_1.toNat) from List.length_drop] <;> rfl) | rfl | (simp only [List.length_drop, List.length_take]; rfl)) ?_
      with_reducible refine (UU_.calls () _ _ (l1.drop (x10_1 : Int).toNat) t441 _ ?side1 ?side2 A9.out).mono ?_
      (case side1 => exact zkc (Kd.C_below HR440.out HB.out))
      (case side2 => exact HC440.out)
      rintro e w16 ⟨rfl, hb⟩
      refine ⟨_, rfl, ?_⟩
      have n0_ := zbb BK439 hb
      have n1_ := zbs HB hb
      clear BK439
      clear HB
      have BK439 := n0_
      have HB := n1_
      clear n0_ n1_
      (try clear hb)
      (try clear hb2)
      (try clear hk)
      (try clear hi)
      refine hK.out _ _ trivial (fun hHeld => ?_)
      clear hK K
      refine norm_ (a' := ?_) ?_ ?_
      rotate_left
      ·
       show Act.put _ (some 33) _ = _
       simp only [Act.put, List.setIfInBounds_toArray, List.set_cons_zero, List.set_cons_succ, i64_w, i32_w]
       rfl
      refine pure_ (i := 5) (N := some 12) (v := ?_) (a' := ?_) #[true, true, true, true, true, true] rfl rfl (by kernel_rfl) (fun _ _ _ h => h) (Or.inl ⟨by rfl, ?_⟩) ?_ ?_
      rotate_left
      ·
       intro w'
       go_simp
       with_reducible rfl
      rotate_left
      ·
       simp only [Act.put, List.setIfInBounds_toArray, List.set_cons_zero, List.set_cons_succ, i64_w, i32_w]
       rfl
      refine done_ (by kernel_rfl) ?_
      try go_wp2
      go_meet
      case rel => exact ⟨_, (x10_1), zE, H', ⟨by have := HK1.out; first | omega | exact Nat.le_refl _⟩, ⟨zbx BK439⟩, ⟨zB HB.out⟩⟩
     rw [if_neg c8] at H
     exact absurd H (by simp)
    rw [if_neg c7] at H
    exact absurd H (by simp)
   rw [if_neg c6] at H
   have c6b0 := decide_eq_false c6
   clear c6
   (first | rw [c6b0] | (simp only [i64_w, i32_w]; rw [c6b0]) | rw [c6b1] | skip)
   have H' := Aside0.mk H
   clear H
   go_wp2
   go_meet
   case rel => exact ⟨_, (x10_1), zE, H', ⟨by have := HK1.out; first | omega | exact Nat.le_refl _⟩, ⟨zbx BK439⟩, ⟨zB HB.out⟩⟩
 clear HC4
 (try clear c1)
 obtain ⟨kq, x10_3, rfl, HA, HJ3, BK439, HB⟩ := hcut
 rcases kq with _ | kj3
 · exact absurd HA.out (by simp [sEC_.j1])
 have H := HA.out
 clear HA
 simp only [sEC_.j1] at H
 have H' := Aside0.mk H
 clear H
 go_wp2
 try simp only [Act.put, List.setIfInBounds_toArray, List.set_cons_succ, List.set_cons_zero]
 go_loopg [10, 17] kj3 (fun kq v10 v17 w' => ∃ (x10_2 : Int) (x17_2 : Bool), v10 = .int .i64 x10_2 ∧ v17 = .bool x17_2 ∧ Aside0 (sEC_.l1 kq l1 a2 x10_2 (l1.length : Int) x17_2 = some (r1, r2)) ∧ Aside0 (kq ≤ kj3) ∧ Aside0 (w'.heap[gb439]? = some (.cells #[.bool a0_0, .bool a0_1, .int .i64 a0_2] 72 (0, 0))) ∧ Aside0 (Below w.heap.size w w'))
 case atStart => exact ⟨(x10_3), (false), zE, zE, H', ⟨Nat.le_refl _⟩, ⟨zbx BK439⟩, ⟨zB HB.out⟩⟩
 case round =>
  clear H'
  (try clear c1)
  obtain ⟨x10_2, x17_2, rfl, rfl, HA, HK2, BK439, HB⟩ := hrel
  rcases gk with _ | k2
  · exact absurd HA.out (by simp [sEC_.l1])
  have H := HA.out
  clear HA
  simp only [sEC_.l1] at H
  by_cases c17 : x10_2 < (l1.length : Int)
  ·
   rw [if_pos c17] at H
   have c17b0 := decide_eq_true c17
   clear c17
   by_cases c18 : 0 ≤ x10_2
   ·
    rw [if_pos c18] at H
    have c18b0 := decide_eq_true c18
    clear c18
    by_cases c19 : x10_2 < (l1.length : Int)
    ·
     rw [if_pos c19] at H
     have c19b0 := decide_eq_true c19
     clear c19
     by_cases c20 : (rd l1 x10_2) > 92
     ·
      rw [if_pos c20] at H
      have c20b0 := decide_eq_true c20
      clear c20
      have H' := Aside0.mk H
      clear H
      have p442 : 0 ≤ (x10_2 : Int) := dT
      have q442 : x10_2 < (l1.length : Int) := dT
      obtain ⟨ad442, e442, hx442_0⟩ := Kd.at_int HR1.out x10_2 p442 q442
      cases e442
      replace hx442_0 := zH HB.out hx442_0
      replace p442 := eq_true p442
      replace q442 := eq_true q442
      go_wp2
      go_roundg k2
      case measure => have := HJ3.out; have := HK2.out; omega
      case rel => exact ⟨(wrap64 (x10_2 + 1)), (x17_2), zE, zE, H', ⟨by have := HJ3.out; have := HK2.out; omega⟩, ⟨zbx BK439⟩, ⟨zB HB.out⟩⟩
     rw [if_neg c20] at H
     have c20b0 := decide_eq_false c20
     clear c20
     by_cases c21 : (rd l1 x10_2) = a2
     ·
      rw [if_pos c21] at H
      have c21b0 := beq_iff_eq.mpr c21
      have c21b1 := bne_eq_false_iff_eq.mpr c21
      clear c21
      by_cases c22 : x17_2 = true
      ·
       subst c22
       rw [if_pos rfl] at H
       have H' := Aside0.mk H
       clear H
       have p442 : 0 ≤ (x10_2 : Int) := dT
       have q442 : x10_2 < (l1.length : Int) := dT
       obtain ⟨ad442, e442, hx442_0⟩ := Kd.at_int HR1.out x10_2 p442 q442
       cases e442
       replace hx442_0 := zH HB.out hx442_0
       replace p442 := eq_true p442
       replace q442 := eq_true q442
       have p443 : 0 ≤ (x10_2 : Int) := dT
       have q443 : x10_2 < (l1.length : Int) := dT
       obtain ⟨ad443, e443, hx443_0⟩ := Kd.at_int HR1.out x10_2 p443 q443
       obtain rfl : ad442 = ad443 := (by injection e443)
       replace hx443_0 := zH HB.out hx443_0
       replace p443 := eq_true p443
       replace q443 := eq_true q443
       go_wp2
       try simp only [Act.put, List.setIfInBounds_toArray, List.set_cons_succ, List.set_cons_zero]
       go_loopg [19] k2 (fun kq v19 w' => ∃ (x19_3 : Int), v19 = .int .i64 x19_3 ∧ Aside0 (sEC_.l2 kq l1 a2 x10_2 (l1.length : Int) true x19_3 = some (r1, r2)) ∧ Aside0 (kq ≤ k2) ∧ Aside0 (w'.heap[gb439]? = some (.cells #[.bool a0_0, .bool a0_1, .int .i64 a0_2] 72 (0, 0))) ∧ Aside0 (Below w.heap.size w w'))
       case atStart => exact ⟨(wrap64 (x10_2 - 1)), zE, H', ⟨Nat.le_refl _⟩, ⟨zbx BK439⟩, ⟨zB HB.out⟩⟩
       case round =>
        clear H'
        (try clear c1); (try clear c17b0); (try clear c18b0); (try clear c19b0); (try clear c20b0); (try clear c21b0); (try clear c21b1); (try clear c22); (try clear hx442_0); (try clear hx443_0); (try clear p442); (try clear p443); (try clear q442); (try clear q443)
        obtain ⟨x19_3, rfl, HA, HK3, BK439, HB⟩ := hrel
        rcases gk with _ | k3
        · exact absurd HA.out (by simp [sEC_.l2])
        have H := HA.out
        clear HA
        simp only [sEC_.l2] at H
        have HC23 := Aside0.mk H
        clear H
        go_upto_region 22 with (fail)
        go_cut [89] (fun v89 wc => ∃ (kq : Nat) (x89_22 : Bool), v89 = .bool x89_22 ∧ Aside0 (sEC_.j4 kq l1 a2 x10_2 (l1.length : Int) true x19_3 x89_22 = some (r1, r2)) ∧ Aside0 (kq ≤ k3) ∧ Aside0 (wc.heap[gb439]? = some (.cells #[.bool a0_0, .bool a0_1, .int .i64 a0_2] 72 (0, 0))) ∧ Aside0 (Below w.heap.size w wc))
        case first =>
         have H := HC23.out
         clear HC23
         by_cases c24 : x19_3 < 0
         ·
          rw [if_pos c24] at H
          have c24b0 := decide_eq_true c24
          clear c24
          (first | rw [c24b0] | (simp only [i64_w, i32_w]; rw [c24b0]) | rw [c24b1] | skip)
          have H' := Aside0.mk H
          clear H
          go_wp2
          go_meet
          case rel => exact ⟨_, (true), zE, H', ⟨by have := HJ3.out; have := HK2.out; have := HK3.out; first | omega | exact Nat.le_refl _⟩, ⟨zbx BK439⟩, ⟨zB HB.out⟩⟩
         rw [if_neg c24] at H
         have c24b0 := decide_eq_false c24
         clear c24
         (first | rw [c24b0] | (simp only [i64_w, i32_w]; rw [c24b0]) | rw [c24b1] | skip)
         by_cases c25 : 0 ≤ x19_3
         ·
          rw [if_pos c25] at H
          have c25b0 := decide_eq_true c25
          clear c25
          by_cases c26 : x19_3 < (l1.length : Int)
          ·
           rw [if_pos c26] at H
           have c26b0 := decide_eq_true c26
           clear c26
           have H' := Aside0.mk H
           clear H
           have p444 : 0 ≤ (x19_3 : Int) := dT
           have q444 : x19_3 < (l1.length : Int) := dT
           obtain ⟨ad444, e444, hx444_0⟩ := Kd.at_int HR1.out x19_3 p444 q444
           obtain rfl : ad442 = ad444 := (by injection e444)
           replace hx444_0 := zH HB.out hx444_0
           replace p444 := eq_true p444
           replace q444 := eq_true q444
           go_wp2
           go_meet
           case rel => exact ⟨_, (((rd l1 x19_3) != 92)), zE, H', ⟨by have := HJ3.out; have := HK2.out; have := HK3.out; first | omega | exact Nat.le_refl _⟩, ⟨zbx BK439⟩, ⟨zB HB.out⟩⟩
          rw [if_neg c26] at H
          exact absurd H (by simp)
         rw [if_neg c25] at H
         exact absurd H (by simp)
        clear HC23
        (try clear c1); (try clear c17b0); (try clear c18b0); (try clear c19b0); (try clear c20b0); (try clear c21b0); (try clear c21b1); (try clear c22); (try clear hx442_0); (try clear hx443_0); (try clear p442); (try clear p443); (try clear q442); (try clear q443)
        obtain ⟨kq, x89_22, rfl, HA, HJ22, BK439, HB⟩ := hcut
        rcases kq with _ | kj22
        · exact absurd HA.out (by simp [sEC_.j4])
        have H := HA.out
        clear HA
        simp only [sEC_.j4] at H
        by_cases c27 : x89_22 = true
        ·
         subst c27
         rw [if_pos rfl] at H
         simp only [Option.some.injEq, Prod.mk.injEq] at H
         obtain ⟨rfl, rfl⟩ := H
         go_wp2
         go_ret2
         exact ⟨zX, zB HB.out⟩
        replace c27 := Bool.eq_false_iff.mpr c27
        subst c27
        rw [if_neg Bool.false_ne_true] at H
        by_cases c28 : (wrap64 (x19_3 - 1)) < 0
        ·
         rw [if_pos c28] at H
         have c28b0 := decide_eq_true c28
         clear c28
         have H' := Aside0.mk H
         clear H
         go_wp2
         go_roundg kj22
         case measure => have := HJ3.out; have := HK2.out; have := HK3.out; have := HJ22.out; omega
         case rel => exact ⟨(wrap64 (x10_2 + 1)), (true), zE, zE, H', ⟨by have := HJ3.out; have := HK2.out; have := HK3.out; have := HJ22.out; omega⟩, ⟨zbx BK439⟩, ⟨zB HB.out⟩⟩
        rw [if_neg c28] at H
        have c28b0 := decide_eq_false c28
        clear c28
        obtain ⟨ji29, hji29⟩ : ∃ j_ : Int, (wrap64 (x19_3 - 1)) = j_ := ⟨_, rfl⟩
        replace H : (if 0 ≤ (ji29) then (if (ji29) < (l1.length : Int) then (if (rd l1 (ji29)) = 92 then (sEC_.l2 kj22 l1 a2 x10_2 (l1.length : Int) true (wrap64 ((ji29) - 1))) else (sEC_.l1 kj22 l1 a2 (wrap64 (x10_2 + 1)) (l1.length : Int) true)) else (none)) else (none)) = some (r1, r2) := by first | (rw [hji29] at H; exact H) | (simp only [hji29] at H ⊢; exact H)
        (try rw [hji29] at c28b0)
        have hji29w : (IntKind.i64.wrap (x19_3 - 1)) = ji29 := (i64_w _).trans hji29
        by_cases c30 : 0 ≤ (ji29)
        ·
         rw [if_pos c30] at H
         have c30b0 := decide_eq_true c30
         clear c30
         by_cases c31 : (ji29) < (l1.length : Int)
         ·
          rw [if_pos c31] at H
          have c31b0 := decide_eq_true c31
          clear c31
          by_cases c32 : (rd l1 (ji29)) = 92
          ·
           rw [if_pos c32] at H
           have c32b0 := beq_iff_eq.mpr c32
           have c32b1 := bne_eq_false_iff_eq.mpr c32
           clear c32
           have H' := Aside0.mk H
           clear H
           have p445 : 0 ≤ ((ji29) : Int) := dT
           have q445 : (ji29) < (l1.length : Int) := dT
           obtain ⟨ad445, e445, hx445_0⟩ := Kd.at_int HR1.out (ji29) p445 q445
           obtain rfl : ad442 = ad445 := (by injection e445)
           replace hx445_0 := zH HB.out hx445_0
           replace p445 := eq_true p445
           replace q445 := eq_true q445
           go_wp2
           go_roundg kj22
           case measure => have := HJ3.out; have := HK2.out; have := HK3.out; have := HJ22.out; omega
           case rel => exact ⟨(wrap64 ((ji29) - 1)), (by first | rfl | (simp; done) | (simp only [← hji29] <;> (first | rfl | simp); done) | (simp [nil_ne_, nil_eq_]; done) | (simp [*]; done)), (by first | exact H' | (rw [hji29]; exact H') | (simp only [hji29]; exact H') | (simp only [hji29] at H' ⊢; exact H')), ⟨by have := HJ3.out; have := HK2.out; have := HK3.out; have := HJ22.out; omega⟩, ⟨zbx BK439⟩, ⟨zB HB.out⟩⟩
          rw [if_neg c32] at H
          have c32b0 := beq_eq_false_iff_ne.mpr c32
          have c32b1 := bne_iff_ne.mpr c32
          have H' := Aside0.mk H
          clear H
          have p445 : 0 ≤ ((ji29) : Int) := dT
          have q445 : (ji29) < (l1.length : Int) := dT
          obtain ⟨ad445, e445, hx445_0⟩ := Kd.at_int HR1.out (ji29) p445 q445
          obtain rfl : ad442 = ad445 := (by injection e445)
          replace hx445_0 := zH HB.out hx445_0
          replace p445 := eq_true p445
          replace q445 := eq_true q445
          go_wp2
          go_roundg kj22
          case measure => have := HJ3.out; have := HK2.out; have := HK3.out; have := HJ22.out; omega
          case rel => exact ⟨(wrap64 (x10_2 + 1)), (true), zE, zE, (by first | exact H' | (rw [hji29]; exact H') | (simp only [hji29]; exact H') | (simp only [hji29] at H' ⊢; exact H')), ⟨by have := HJ3.out; have := HK2.out; have := HK3.out; have := HJ22.out; omega⟩, ⟨zbx BK439⟩, ⟨zB HB.out⟩⟩
         rw [if_neg c31] at H
         exact absurd H (by simp)
        rw [if_neg c30] at H
        exact absurd H (by simp)
      replace c22 := Bool.eq_false_iff.mpr c22
      subst c22
      rw [if_neg Bool.false_ne_true] at H
      simp only [Option.some.injEq, Prod.mk.injEq] at H
      obtain ⟨rfl, rfl⟩ := H
      have p442 : 0 ≤ (x10_2 : Int) := dT
      have q442 : x10_2 < (l1.length : Int) := dT
      obtain ⟨ad442, e442, hx442_0⟩ := Kd.at_int HR1.out x10_2 p442 q442
      cases e442
      replace hx442_0 := zH HB.out hx442_0
      replace p442 := eq_true p442
      replace q442 := eq_true q442
      have p443 : 0 ≤ (x10_2 : Int) := dT
      have q443 : x10_2 < (l1.length : Int) := dT
      obtain ⟨ad443, e443, hx443_0⟩ := Kd.at_int HR1.out x10_2 p443 q443
      obtain rfl : ad442 = ad443 := (by injection e443)
      replace hx443_0 := zH HB.out hx443_0
      replace p443 := eq_true p443
      replace q443 := eq_true q443
      go_wp2
      go_ret2
      exact ⟨zX, zB HB.out⟩
     rw [if_neg c21] at H
     have c21b0 := beq_eq_false_iff_ne.mpr c21
     have c21b1 := bne_iff_ne.mpr c21
     by_cases c33 : (rd l1 x10_2) = 92
     ·
      rw [if_pos c33] at H
      have c33b0 := beq_iff_eq.mpr c33
      have c33b1 := bne_eq_false_iff_eq.mpr c33
      clear c33
      have H' := Aside0.mk H
      clear H
      have p442 : 0 ≤ (x10_2 : Int) := dT
      have q442 : x10_2 < (l1.length : Int) := dT
      obtain ⟨ad442, e442, hx442_0⟩ := Kd.at_int HR1.out x10_2 p442 q442
      cases e442
      replace hx442_0 := zH HB.out hx442_0
      replace p442 := eq_true p442
      replace q442 := eq_true q442
      have p443 : 0 ≤ (x10_2 : Int) := dT
      have q443 : x10_2 < (l1.length : Int) := dT
      obtain ⟨ad443, e443, hx443_0⟩ := Kd.at_int HR1.out x10_2 p443 q443
      obtain rfl : ad442 = ad443 := (by injection e443)
      replace hx443_0 := zH HB.out hx443_0
      replace p443 := eq_true p443
      replace q443 := eq_true q443
      go_wp2
      go_roundg k2
      case measure => have := HJ3.out; have := HK2.out; omega
      case rel => exact ⟨(wrap64 (x10_2 + 1)), (true), zE, zE, H', ⟨by have := HJ3.out; have := HK2.out; omega⟩, ⟨zbx BK439⟩, ⟨zB HB.out⟩⟩
     rw [if_neg c33] at H
     have c33b0 := beq_eq_false_iff_ne.mpr c33
     have c33b1 := bne_iff_ne.mpr c33
     have H' := Aside0.mk H
     clear H
     have p442 : 0 ≤ (x10_2 : Int) := dT
     have q442 : x10_2 < (l1.length : Int) := dT
     obtain ⟨ad442, e442, hx442_0⟩ := Kd.at_int HR1.out x10_2 p442 q442
     cases e442
     replace hx442_0 := zH HB.out hx442_0
     replace p442 := eq_true p442
     replace q442 := eq_true q442
     have p443 : 0 ≤ (x10_2 : Int) := dT
     have q443 : x10_2 < (l1.length : Int) := dT
     obtain ⟨ad443, e443, hx443_0⟩ := Kd.at_int HR1.out x10_2 p443 q443
     obtain rfl : ad442 = ad443 := (by injection e443)
     replace hx443_0 := zH HB.out hx443_0
     replace p443 := eq_true p443
     replace q443 := eq_true q443
     go_wp2
     go_roundg k2
     case measure => have := HJ3.out; have := HK2.out; omega
     case rel => exact ⟨(wrap64 (x10_2 + 1)), (x17_2), zE, zE, H', ⟨by have := HJ3.out; have := HK2.out; omega⟩, ⟨zbx BK439⟩, ⟨zB HB.out⟩⟩
    rw [if_neg c19] at H
    exact absurd H (by simp)
   rw [if_neg c18] at H
   exact absurd H (by simp)
  rw [if_neg c17] at H
  have c17b0 := decide_eq_false c17
  clear c17
  simp only [Option.some.injEq, Prod.mk.injEq] at H
  obtain ⟨rfl, rfl⟩ := H
  go_wp2
  go_ret2
  exact ⟨zX, zB HB.out⟩
end Go.Proofs.YtpdohioobbfncaaGreatDoor.PFnJpWildStop