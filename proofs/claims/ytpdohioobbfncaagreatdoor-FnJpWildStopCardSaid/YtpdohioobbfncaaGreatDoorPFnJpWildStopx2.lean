/- what the Go functions that the law FnJpWildStop reaches compute, each as a plain function, with the proof that the Go code computes just that; no condition beside those that each theorem states. -/
import Derived.Test.YtpdohioobbfncaaGreatDoorPFnJpWildStopx0
import Derived.Test.YtpdohioobbfncaaGreatDoorPFnJpWildStopx1
namespace Go.Proofs.YtpdohioobbfncaaGreatDoor.PFnJpWildStop
open Go.RowKit Go.Proofs.YtpdohioobbfncaaGreatDoorW.PrintWords Go.Proofs.YtpdohioobbfncaaGreatDoorW.PrintLast Go.Proofs.YtpdohioobbfncaaGreatDoorW.PrintMore
set_option linter.unusedVariables false
set_option linter.unusedSimpArgs false
mutual
def esc_.j0 : Nat → Int → Bool → ByteArray → Int → Option (Bool × ByteArray × Int)
  | 0, _, _, _, _ => none
  | k + 1, x7, x8, x1000, x1001 => if x8 = true then (some (true, x1000, wrap64 (x1001 + 1))) else (if x7 = 117 then (esc_.l0 k 0 x1000 (wrap64 (x1001 + 1))) else (some (false, x1000, x1001)))
def esc_.l0 : Nat → Int → ByteArray → Int → Option (Bool × ByteArray × Int)
  | 0, _, _, _ => none
  | k + 1, x3, x1000, x1001 => if x3 < 4 then ((her_.f x1000 x1001).bind fun bt106 => ((hD_.f k bt106.1).bind fun bt109 => (if bt109.2 = true then (esc_.l0 k (wrap64 (x3 + 1)) bt106.2.1 (wrap64 (bt106.2.2 + 1))) else (some (false, bt106.2.1, bt106.2.2))))) else (some (true, x1000, x1001))
end
def esc_.f (k : Nat) (s0_0 : ByteArray) (s0_1 : Int) : Option (Bool × ByteArray × Int) := (her_.f s0_0 s0_1).bind fun bt103 => (if bt103.1 = 34 then (esc_.j0 k bt103.1 (bt103.1 == 34) bt103.2.1 bt103.2.2) else (if bt103.1 = 92 then (esc_.j0 k bt103.1 (bt103.1 == 92) bt103.2.1 bt103.2.2) else (if bt103.1 = 47 then (esc_.j0 k bt103.1 (bt103.1 == 47) bt103.2.1 bt103.2.2) else (if bt103.1 = 98 then (esc_.j0 k bt103.1 (bt103.1 == 98) bt103.2.1 bt103.2.2) else (if bt103.1 = 102 then (esc_.j0 k bt103.1 (bt103.1 == 102) bt103.2.1 bt103.2.2) else (if bt103.1 = 110 then (esc_.j0 k bt103.1 (bt103.1 == 110) bt103.2.1 bt103.2.2) else (if bt103.1 = 114 then (esc_.j0 k bt103.1 (bt103.1 == 114) bt103.2.1 bt103.2.2) else (esc_.j0 k bt103.1 (bt103.1 == 116) bt103.2.1 bt103.2.2))))))))
set_option maxHeartbeats 8000000 in
set_option maxRecDepth 100000 in
theorem esc_.calls (k : Nat) (g : Nat) (s0_0 : ByteArray) (s0_1 : Int) (r1 : Bool) (r2 : ByteArray) (r3 : Int) (w0 w : World) (hI : IsS79 w0 w g s0_0 s0_1) (hB : Below w0.heap.size w0 w) (h : esc_.f k s0_0 s0_1 = some (r1, r2, r3)) :
    Calls Tryz.prog 77 #[.pointer (some ⟨g, 0, none⟩)] w fun e w' => e = .returned (.bool r1) ∧ IsS79 w0 w' g r2 r3 ∧ Below w0.heap.size w0 w' ∧ KeepBut w w' g none := by
 have HI0 := Aside0.mk hI
 have HK := Aside0.mk (KeepBut.refl w g none)
 have HL := Aside0.mk hB.size
 clear hI
 have HW0 := Aside0.mk hB.size
 have HB := Aside0.mk hB
 clear hB
 have H : ((her_.f s0_0 s0_1).bind fun bt103 => (if bt103.1 = 34 then (esc_.j0 k bt103.1 (bt103.1 == 34) bt103.2.1 bt103.2.2) else (if bt103.1 = 92 then (esc_.j0 k bt103.1 (bt103.1 == 92) bt103.2.1 bt103.2.2) else (if bt103.1 = 47 then (esc_.j0 k bt103.1 (bt103.1 == 47) bt103.2.1 bt103.2.2) else (if bt103.1 = 98 then (esc_.j0 k bt103.1 (bt103.1 == 98) bt103.2.1 bt103.2.2) else (if bt103.1 = 102 then (esc_.j0 k bt103.1 (bt103.1 == 102) bt103.2.1 bt103.2.2) else (if bt103.1 = 110 then (esc_.j0 k bt103.1 (bt103.1 == 110) bt103.2.1 bt103.2.2) else (if bt103.1 = 114 then (esc_.j0 k bt103.1 (bt103.1 == 114) bt103.2.1 bt103.2.2) else (esc_.j0 k bt103.1 (bt103.1 == 116) bt103.2.1 bt103.2.2))))))))) = some (r1, r2, r3) := h
 clear h
 replace H := Option.bind_eq_some_iff.mp H
 obtain ⟨⟨t103, t104, t105⟩, A20, H⟩ := H
 try dsimp only at H
 have A2 := Aside0.mk A20
 clear A20
 have HC3 := Aside0.mk H
 clear H
 go_enter Tryz.func77, Tryz.ntmps77
 go_upto_if 8 with (first | ((with_reducible refine gate_callee (f := 56) rfl ?_); refine zG (some 7) Tryz.func56 (her_.calls g s0_0 s0_1 t103 t104 t105 w0 _ (zI79 HI0.out) (zC79 HB.out) A2.out) HK ?_; clear HI0 HB HK; intro w4 HI0 HB HK))
 (try simp only [Act.put, List.setIfInBounds_toArray, List.set_cons_zero, List.set_cons_succ])
 go_cut [8] (fun v8 wc => ∃ (kq : Nat) (x8_2 : Bool), v8 = .bool x8_2 ∧ Aside0 (esc_.j0 kq t103 x8_2 t104 t105 = some (r1, r2, r3)) ∧ Aside0 (kq ≤ k) ∧ Aside0 (IsS79 w0 wc g t104 t105) ∧ Aside0 (KeepBut w wc g none) ∧ Aside0 (Below w0.heap.size w0 wc))
 case first =>
  have H := HC3.out
  clear HC3
  by_cases c5 : t103 = 34
  ·
   rw [if_pos c5] at H
   have c5b0 := beq_iff_eq.mpr c5
   have c5b1 := bne_eq_false_iff_eq.mpr c5
   clear c5
   (first | rw [c5b0] | (simp only [i64_w, i32_w]; rw [c5b0]) | rw [c5b1] | skip)
   have H' := Aside0.mk H
   clear H
   go_wp2
   go_meet
   case rel => exact ⟨_, ((t103 == 34)), zE, H', ⟨by first | omega | exact Nat.le_refl _⟩, ⟨zI79 HI0.out⟩, ⟨zK HK.out⟩, ⟨zC79 HB.out⟩⟩
  rw [if_neg c5] at H
  have c5b0 := beq_eq_false_iff_ne.mpr c5
  have c5b1 := bne_iff_ne.mpr c5
  (first | rw [c5b0] | (simp only [i64_w, i32_w]; rw [c5b0]) | rw [c5b1] | skip)
  by_cases c6 : t103 = 92
  ·
   rw [if_pos c6] at H
   have c6b0 := beq_iff_eq.mpr c6
   have c6b1 := bne_eq_false_iff_eq.mpr c6
   clear c6
   have H' := Aside0.mk H
   clear H
   go_wp2
   go_meet
   case rel => exact ⟨_, ((t103 == 92)), zE, H', ⟨by first | omega | exact Nat.le_refl _⟩, ⟨zI79 HI0.out⟩, ⟨zK HK.out⟩, ⟨zC79 HB.out⟩⟩
  rw [if_neg c6] at H
  have c6b0 := beq_eq_false_iff_ne.mpr c6
  have c6b1 := bne_iff_ne.mpr c6
  by_cases c7 : t103 = 47
  ·
   rw [if_pos c7] at H
   have c7b0 := beq_iff_eq.mpr c7
   have c7b1 := bne_eq_false_iff_eq.mpr c7
   clear c7
   have H' := Aside0.mk H
   clear H
   go_wp2
   go_meet
   case rel => exact ⟨_, ((t103 == 47)), zE, H', ⟨by first | omega | exact Nat.le_refl _⟩, ⟨zI79 HI0.out⟩, ⟨zK HK.out⟩, ⟨zC79 HB.out⟩⟩
  rw [if_neg c7] at H
  have c7b0 := beq_eq_false_iff_ne.mpr c7
  have c7b1 := bne_iff_ne.mpr c7
  by_cases c8 : t103 = 98
  ·
   rw [if_pos c8] at H
   have c8b0 := beq_iff_eq.mpr c8
   have c8b1 := bne_eq_false_iff_eq.mpr c8
   clear c8
   have H' := Aside0.mk H
   clear H
   go_wp2
   go_meet
   case rel => exact ⟨_, ((t103 == 98)), zE, H', ⟨by first | omega | exact Nat.le_refl _⟩, ⟨zI79 HI0.out⟩, ⟨zK HK.out⟩, ⟨zC79 HB.out⟩⟩
  rw [if_neg c8] at H
  have c8b0 := beq_eq_false_iff_ne.mpr c8
  have c8b1 := bne_iff_ne.mpr c8
  by_cases c9 : t103 = 102
  ·
   rw [if_pos c9] at H
   have c9b0 := beq_iff_eq.mpr c9
   have c9b1 := bne_eq_false_iff_eq.mpr c9
   clear c9
   have H' := Aside0.mk H
   clear H
   go_wp2
   go_meet
   case rel => exact ⟨_, ((t103 == 102)), zE, H', ⟨by first | omega | exact Nat.le_refl _⟩, ⟨zI79 HI0.out⟩, ⟨zK HK.out⟩, ⟨zC79 HB.out⟩⟩
  rw [if_neg c9] at H
  have c9b0 := beq_eq_false_iff_ne.mpr c9
  have c9b1 := bne_iff_ne.mpr c9
  by_cases c10 : t103 = 110
  ·
   rw [if_pos c10] at H
   have c10b0 := beq_iff_eq.mpr c10
   have c10b1 := bne_eq_false_iff_eq.mpr c10
   clear c10
   have H' := Aside0.mk H
   clear H
   go_wp2
   go_meet
   case rel => exact ⟨_, ((t103 == 110)), zE, H', ⟨by first | omega | exact Nat.le_refl _⟩, ⟨zI79 HI0.out⟩, ⟨zK HK.out⟩, ⟨zC79 HB.out⟩⟩
  rw [if_neg c10] at H
  have c10b0 := beq_eq_false_iff_ne.mpr c10
  have c10b1 := bne_iff_ne.mpr c10
  by_cases c11 : t103 = 114
  ·
   rw [if_pos c11] at H
   have c11b0 := beq_iff_eq.mpr c11
   have c11b1 := bne_eq_false_iff_eq.mpr c11
   clear c11
   have H' := Aside0.mk H
   clear H
   go_wp2
   go_meet
   case rel => exact ⟨_, ((t103 == 114)), zE, H', ⟨by first | omega | exact Nat.le_refl _⟩, ⟨zI79 HI0.out⟩, ⟨zK HK.out⟩, ⟨zC79 HB.out⟩⟩
  rw [if_neg c11] at H
  have c11b0 := beq_eq_false_iff_ne.mpr c11
  have c11b1 := bne_iff_ne.mpr c11
  have H' := Aside0.mk H
  clear H
  go_wp2
  go_meet
  case rel => exact ⟨_, ((t103 == 116)), zE, H', ⟨by first | omega | exact Nat.le_refl _⟩, ⟨zI79 HI0.out⟩, ⟨zK HK.out⟩, ⟨zC79 HB.out⟩⟩
 clear HC3
 obtain ⟨kq, x8_2, rfl, HA, HJ2, HI0, HK, HB⟩ := hcut
 rcases kq with _ | kj2
 · exact absurd HA.out (by simp [esc_.j0])
 have H := HA.out
 clear HA
 simp only [esc_.j0] at H
 by_cases c12 : x8_2 = true
 ·
  subst c12
  rw [if_pos rfl] at H
  simp only [Option.some.injEq, Prod.mk.injEq] at H
  obtain ⟨rfl, rfl, rfl⟩ := H
  obtain ⟨HGz13, hgz13⟩ := HI0.out
  have hz13 := zc2 HGz13
  clear HGz13 hgz13
  go_wp2
  go_ret
  exact ⟨zX, zI79 HI0.out, zC79 HB.out, zK HK.out⟩
 replace c12 := Bool.eq_false_iff.mpr c12
 subst c12
 rw [if_neg Bool.false_ne_true] at H
 by_cases c14 : t103 = 117
 ·
  rw [if_pos c14] at H
  have c14b0 := beq_iff_eq.mpr c14
  have c14b1 := bne_eq_false_iff_eq.mpr c14
  clear c14
  have H' := Aside0.mk H
  clear H
  obtain ⟨HGz15, hgz15⟩ := HI0.out
  have hz15 := zc2 HGz15
  clear HGz15 hgz15
  go_wp2
  try simp only [Act.put, List.setIfInBounds_toArray, List.set_cons_succ, List.set_cons_zero]
  go_loopg [3] kj2 (fun kq v3 w' => ∃ (x3_2 : Int) (x1000_2 : ByteArray) (x1001_2 : Int), v3 = .int .i64 x3_2 ∧ Aside0 (esc_.l0 kq x3_2 x1000_2 x1001_2 = some (r1, r2, r3)) ∧ Aside0 (kq ≤ kj2) ∧ Aside0 (IsS79 w0 w' g x1000_2 x1001_2) ∧ Aside0 (KeepBut w w' g none) ∧ Aside0 (Below w0.heap.size w0 w'))
  case atStart => exact ⟨(0), (t104), (wrap64 (t105 + 1)), zE, H', ⟨Nat.le_refl _⟩, ⟨zI79 HI0.out⟩, ⟨zK HK.out⟩, ⟨zC79 HB.out⟩⟩
  case round =>
   clear H'
   (try clear c12); (try clear c14b0); (try clear c14b1); (try clear hz15)
   obtain ⟨x3_2, x1000_2, x1001_2, rfl, HA, HK2, HI0, HK, HB⟩ := hrel
   rcases gk with _ | k2
   · exact absurd HA.out (by simp [esc_.l0])
   have H := HA.out
   clear HA
   simp only [esc_.l0] at H
   by_cases c16 : x3_2 < 4
   rw [if_pos c16] at H
   have c16b0 := decide_eq_true c16
   clear c16
   replace H := Option.bind_eq_some_iff.mp H
   obtain ⟨⟨t106, t107, t108⟩, A170, H⟩ := H
   try dsimp only at H
   have A17 := Aside0.mk A170
   clear A170
   replace H := Option.bind_eq_some_iff.mp H
   obtain ⟨⟨t109, t110⟩, A180, H⟩ := H
   try dsimp only at H
   have A18 := Aside0.mk A180
   clear A180
   by_cases c19 : t110 = true
   subst c19
   rw [if_pos rfl] at H
   have H' := Aside0.mk H
   clear H
   rotate_left
   replace c19 := Bool.eq_false_iff.mpr c19
   subst c19
   rw [if_neg Bool.false_ne_true] at H
   simp only [Option.some.injEq, Prod.mk.injEq] at H
   obtain ⟨rfl, rfl, rfl⟩ := H
   rotate_left
   ·
    rw [if_neg c16] at H
    have c16b0 := decide_eq_false c16
    clear c16
    simp only [Option.some.injEq, Prod.mk.injEq] at H
    obtain ⟨rfl, rfl, rfl⟩ := H
    go_wp2
    go_ret
    exact ⟨zX, zI79 HI0.out, zC79 HB.out, zK HK.out⟩
   all_goals go_wp2_with (first | ((with_reducible refine gate_callee (f := 56) rfl ?_); refine zG (some 39) Tryz.func56 (her_.calls g x1000_2 x1001_2 t106 t107 t108 w0 _ (zI79 HI0.out) (zC79 HB.out) A17.out) HK ?_; clear HI0 HB HK; intro w20 HI0 HB HK) | ((with_reducible refine gate_callee (f := 62) rfl ?_); refine goesL_ (some 40) rfl rfl Tryz.func62 (by kernel_rfl) rfl #[.int .u8 t106] rfl zM ?_; (with_reducible refine (hD_.calls k2 t106 t109 true _ A18.out).mono ?_); rintro e w' ⟨rfl, ⟨nd, rfl⟩⟩; refine ⟨_, rfl, ?_⟩; (try (rw [drewN_self w20]; generalize hq_ : World.drewN w20 _ = w20; replace HI0 : Aside0 (IsS79 w0 w20 g t107 t108) := ⟨by rw [← hq_]; exact (zI79 HI0.out)⟩; replace HK : Aside0 (KeepBut w w20 g none) := ⟨by rw [← hq_]; exact (zK HK.out)⟩; replace HB : Aside0 (Below w0.heap.size w0 w20) := ⟨by rw [← hq_]; exact (zC79 HB.out)⟩; clear hq_)); obtain ⟨HGz21, hgz21⟩ := HI0.out; have hz21 := zc2 HGz21; clear HGz21 hgz21) | ((with_reducible refine gate_callee (f := 62) rfl ?_); refine goesL_ (some 40) rfl rfl Tryz.func62 (by kernel_rfl) rfl #[.int .u8 t106] rfl zM ?_; (with_reducible refine (hD_.calls k2 t106 t109 false _ A18.out).mono ?_); rintro e w' ⟨rfl, ⟨nd, rfl⟩⟩; refine ⟨_, rfl, ?_⟩))
   ·
    go_roundg k2
    case measure => have := HJ2.out; have := HK2.out; omega
    case rel => exact ⟨(wrap64 (x3_2 + 1)), (t107), (wrap64 (t108 + 1)), zE, H', ⟨by have := HJ2.out; have := HK2.out; omega⟩, ⟨zI79 HI0.out⟩, ⟨zK HK.out⟩, ⟨zC79 HB.out⟩⟩
   ·
    go_ret
    exact ⟨zX, zI79 HI0.out, zC79 HB.out, zK HK.out⟩
 rw [if_neg c14] at H
 have c14b0 := beq_eq_false_iff_ne.mpr c14
 have c14b1 := bne_iff_ne.mpr c14
 simp only [Option.some.injEq, Prod.mk.injEq] at H
 obtain ⟨rfl, rfl, rfl⟩ := H
 go_wp2
 go_ret
 exact ⟨zX, zI79 HI0.out, zC79 HB.out, zK HK.out⟩
def q_.l0 : Nat → ByteArray → Int → Option (Bool × ByteArray × Int)
  | 0, _, _ => none
  | k + 1, x1000, x1001 => if x1001 < (x1000.size : Int) then (if 0 ≤ x1001 then (if (bt x1000 x1001) = 34 then (some (true, x1000, wrap64 (x1001 + 1))) else (if (bt x1000 x1001) < 32 then (some (false, x1000, wrap64 (x1001 + 1))) else (if (bt x1000 x1001) = 92 then ((esc_.f k x1000 (wrap64 (x1001 + 1))).bind fun bt111 => (if bt111.1 = true then (q_.l0 k bt111.2.1 bt111.2.2) else (some (false, bt111.2.1, bt111.2.2)))) else (q_.l0 k x1000 (wrap64 (x1001 + 1)))))) else (none)) else (some (false, x1000, x1001))
def q_.f (k : Nat) (s0_0 : ByteArray) (s0_1 : Int) : Option (Bool × ByteArray × Int) := q_.l0 k s0_0 (wrap64 (s0_1 + 1))
set_option maxHeartbeats 8000000 in
set_option maxRecDepth 100000 in
theorem q_.calls (k : Nat) (g : Nat) (s0_0 : ByteArray) (s0_1 : Int) (r1 : Bool) (r2 : ByteArray) (r3 : Int) (w0 w : World) (hI : IsS79 w0 w g s0_0 s0_1) (hB : Below w0.heap.size w0 w) (h : q_.f k s0_0 s0_1 = some (r1, r2, r3)) :
    Calls Tryz.prog 59 #[.pointer (some ⟨g, 0, none⟩)] w fun e w' => e = .returned (.bool r1) ∧ IsS79 w0 w' g r2 r3 ∧ Below w0.heap.size w0 w' ∧ KeepBut w w' g none := by
 have HI0 := Aside0.mk hI
 have HK := Aside0.mk (KeepBut.refl w g none)
 have HL := Aside0.mk hB.size
 clear hI
 have HW0 := Aside0.mk hB.size
 have HB := Aside0.mk hB
 clear hB
 have H : (q_.l0 k s0_0 (wrap64 (s0_1 + 1))) = some (r1, r2, r3) := h
 clear h
 have H' := Aside0.mk H
 clear H
 obtain ⟨HGz2, hgz2⟩ := HI0.out
 have hz2 := zc2 HGz2
 clear HGz2 hgz2
 go_enter Tryz.func59, Tryz.ntmps59
 go_wp2
 repeat (go_quiet (fail); try go_wp2)
 try simp only [Act.put, List.setIfInBounds_toArray, List.set_cons_succ, List.set_cons_zero]
 go_loopg [] k (fun kq w' => ∃ (x1000_1 : ByteArray) (x1001_1 : Int), Aside0 (q_.l0 kq x1000_1 x1001_1 = some (r1, r2, r3)) ∧ Aside0 (kq ≤ k) ∧ Aside0 (IsS79 w0 w' g x1000_1 x1001_1) ∧ Aside0 (KeepBut w w' g none) ∧ Aside0 (Below w0.heap.size w0 w'))
 case atStart => exact ⟨(s0_0), (wrap64 (s0_1 + 1)), H', ⟨Nat.le_refl _⟩, ⟨zI79 HI0.out⟩, ⟨zK HK.out⟩, ⟨zC79 HB.out⟩⟩
 case round =>
  clear H'
  (try clear hz2)
  obtain ⟨x1000_1, x1001_1, HA, HK1, HI0, HK, HB⟩ := hrel
  rcases gk with _ | k1
  · exact absurd HA.out (by simp [q_.l0])
  have H := HA.out
  clear HA
  simp only [q_.l0] at H
  by_cases c3 : x1001_1 < (x1000_1.size : Int)
  ·
   rw [if_pos c3] at H
   have c3b0 := decide_eq_true c3
   clear c3
   by_cases c4 : 0 ≤ x1001_1
   ·
    rw [if_pos c4] at H
    have c4b0 := decide_eq_true c4
    clear c4
    by_cases c6 : (bt x1000_1 x1001_1) = 34
    ·
     rw [if_pos c6] at H
     have c6b0 := beq_iff_eq.mpr c6
     have c6b1 := bne_eq_false_iff_eq.mpr c6
     clear c6
     simp only [Option.some.injEq, Prod.mk.injEq] at H
     obtain ⟨rfl, rfl, rfl⟩ := H
     obtain ⟨HGz7, hgz7⟩ := HI0.out
     have hz7 := zc2 HGz7
     clear HGz7 hgz7
     have p5 : 0 ≤ (x1001_1 : Int) := dT
     have q5 : x1001_1 < (x1000_1.size : Int) := dT
     have hx5 := bt_at x1000_1 x1001_1
     replace p5 := eq_true p5
     replace q5 := eq_true q5
     go_wp2
     repeat (go_quiet (fail); try go_wp2)
     go_ret
     exact ⟨zX, zI79 HI0.out, zC79 HB.out, zK HK.out⟩
    rw [if_neg c6] at H
    have c6b0 := beq_eq_false_iff_ne.mpr c6
    have c6b1 := bne_iff_ne.mpr c6
    by_cases c8 : (bt x1000_1 x1001_1) < 32
    ·
     rw [if_pos c8] at H
     have c8b0 := decide_eq_true c8
     clear c8
     simp only [Option.some.injEq, Prod.mk.injEq] at H
     obtain ⟨rfl, rfl, rfl⟩ := H
     obtain ⟨HGz9, hgz9⟩ := HI0.out
     have hz9 := zc2 HGz9
     clear HGz9 hgz9
     have p5 : 0 ≤ (x1001_1 : Int) := dT
     have q5 : x1001_1 < (x1000_1.size : Int) := dT
     have hx5 := bt_at x1000_1 x1001_1
     replace p5 := eq_true p5
     replace q5 := eq_true q5
     go_wp2
     repeat (go_quiet (fail); try go_wp2)
     go_ret
     exact ⟨zX, zI79 HI0.out, zC79 HB.out, zK HK.out⟩
    rw [if_neg c8] at H
    have c8b0 := decide_eq_false c8
    clear c8
    by_cases c10 : (bt x1000_1 x1001_1) = 92
    ·
     rw [if_pos c10] at H
     have c10b0 := beq_iff_eq.mpr c10
     have c10b1 := bne_eq_false_iff_eq.mpr c10
     clear c10
     replace H := Option.bind_eq_some_iff.mp H
     obtain ⟨⟨t111, t112, t113⟩, A110, H⟩ := H
     try dsimp only at H
     have A11 := Aside0.mk A110
     clear A110
     by_cases c12 : t111 = true
     ·
      subst c12
      rw [if_pos rfl] at H
      have H' := Aside0.mk H
      clear H
      obtain ⟨HGz13, hgz13⟩ := HI0.out
      have hz13 := zc2 HGz13
      clear HGz13 hgz13
      have p5 : 0 ≤ (x1001_1 : Int) := dT
      have q5 : x1001_1 < (x1000_1.size : Int) := dT
      have hx5 := bt_at x1000_1 x1001_1
      replace p5 := eq_true p5
      replace q5 := eq_true q5
      iterate 4 (try go_wp2_with (first | (go_at_call 77; with_reducible refine zA (esc_.calls k1 g x1000_1 (wrap64 (x1001_1 + 1)) true t112 t113 w0 _ (zI79 HI0.out) (zC79 HB.out) A11.out) HK ?_; clear HI0 HB HK; intro w14 HI0 HB HK)); try go_quiet (first | (go_at_call 77; with_reducible refine zA (esc_.calls k1 g x1000_1 (wrap64 (x1001_1 + 1)) true t112 t113 w0 _ (zI79 HI0.out) (zC79 HB.out) A11.out) HK ?_; clear HI0 HB HK; intro w14 HI0 HB HK)))
      go_roundg k1
      case measure => have := HK1.out; omega
      case rel => exact ⟨(t112), (t113), H', ⟨by have := HK1.out; omega⟩, ⟨zI79 HI0.out⟩, ⟨zK HK.out⟩, ⟨zC79 HB.out⟩⟩
     replace c12 := Bool.eq_false_iff.mpr c12
     subst c12
     rw [if_neg Bool.false_ne_true] at H
     simp only [Option.some.injEq, Prod.mk.injEq] at H
     obtain ⟨rfl, rfl, rfl⟩ := H
     obtain ⟨HGz15, hgz15⟩ := HI0.out
     have hz15 := zc2 HGz15
     clear HGz15 hgz15
     have p5 : 0 ≤ (x1001_1 : Int) := dT
     have q5 : x1001_1 < (x1000_1.size : Int) := dT
     have hx5 := bt_at x1000_1 x1001_1
     replace p5 := eq_true p5
     replace q5 := eq_true q5
     iterate 4 (try go_wp2_with (first | (go_at_call 77; with_reducible refine zA (esc_.calls k1 g x1000_1 (wrap64 (x1001_1 + 1)) false t112 t113 w0 _ (zI79 HI0.out) (zC79 HB.out) A11.out) HK ?_; clear HI0 HB HK; intro w16 HI0 HB HK)); try go_quiet (first | (go_at_call 77; with_reducible refine zA (esc_.calls k1 g x1000_1 (wrap64 (x1001_1 + 1)) false t112 t113 w0 _ (zI79 HI0.out) (zC79 HB.out) A11.out) HK ?_; clear HI0 HB HK; intro w16 HI0 HB HK)))
     go_ret
     exact ⟨zX, zI79 HI0.out, zC79 HB.out, zK HK.out⟩
    rw [if_neg c10] at H
    have c10b0 := beq_eq_false_iff_ne.mpr c10
    have c10b1 := bne_iff_ne.mpr c10
    have H' := Aside0.mk H
    clear H
    obtain ⟨HGz17, hgz17⟩ := HI0.out
    have hz17 := zc2 HGz17
    clear HGz17 hgz17
    have p5 : 0 ≤ (x1001_1 : Int) := dT
    have q5 : x1001_1 < (x1000_1.size : Int) := dT
    have hx5 := bt_at x1000_1 x1001_1
    replace p5 := eq_true p5
    replace q5 := eq_true q5
    go_wp2
    repeat (go_quiet (fail); try go_wp2)
    go_roundg k1
    case measure => have := HK1.out; omega
    case rel => exact ⟨(x1000_1), (wrap64 (x1001_1 + 1)), H', ⟨by have := HK1.out; omega⟩, ⟨zI79 HI0.out⟩, ⟨zK HK.out⟩, ⟨zC79 HB.out⟩⟩
   rw [if_neg c4] at H
   exact absurd H (by simp)
  rw [if_neg c3] at H
  have c3b0 := decide_eq_false c3
  clear c3
  simp only [Option.some.injEq, Prod.mk.injEq] at H
  obtain ⟨rfl, rfl, rfl⟩ := H
  obtain ⟨HGz18, hgz18⟩ := HI0.out
  have hz18 := zc2 HGz18
  clear HGz18 hgz18
  go_wp2
  repeat (go_quiet (fail); try go_wp2)
  go_ret
  exact ⟨zX, zI79 HI0.out, zC79 HB.out, zK HK.out⟩
def t_.f (s0_0 : ByteArray) (s0_1 : Int) (a1 : Int) : Option (Bool × ByteArray × Int) := if s0_1 < (s0_0.size : Int) then (if 0 ≤ s0_1 then (if (bt s0_0 s0_1) = a1 then (some (true, s0_0, wrap64 (s0_1 + 1))) else (some (false, s0_0, s0_1))) else (none)) else (some (false, s0_0, s0_1))
set_option maxHeartbeats 8000000 in
set_option maxRecDepth 100000 in
theorem t_.calls (g : Nat) (s0_0 : ByteArray) (s0_1 : Int) (a1 : Int) (r1 : Bool) (r2 : ByteArray) (r3 : Int) (w0 w : World) (hI : IsS79 w0 w g s0_0 s0_1) (hB : Below w0.heap.size w0 w) (h : t_.f s0_0 s0_1 a1 = some (r1, r2, r3)) :
    Calls Tryz.prog 76 #[.pointer (some ⟨g, 0, none⟩), .int .u8 a1] w fun e w' => e = .returned (.bool r1) ∧ IsS79 w0 w' g r2 r3 ∧ Below w0.heap.size w0 w' ∧ KeepBut w w' g none := by
 have HI0 := Aside0.mk hI
 have HK := Aside0.mk (KeepBut.refl w g none)
 have HL := Aside0.mk hB.size
 clear hI
 have HW0 := Aside0.mk hB.size
 have HB := Aside0.mk hB
 clear hB
 have H : (if s0_1 < (s0_0.size : Int) then (if 0 ≤ s0_1 then (if (bt s0_0 s0_1) = a1 then (some (true, s0_0, wrap64 (s0_1 + 1))) else (some (false, s0_0, s0_1))) else (none)) else (some (false, s0_0, s0_1))) = some (r1, r2, r3) := h
 clear h
 by_cases c3 : s0_1 < (s0_0.size : Int)
 ·
  rw [if_pos c3] at H
  have c3b0 := decide_eq_true c3
  clear c3
  by_cases c4 : 0 ≤ s0_1
  ·
   rw [if_pos c4] at H
   have c4b0 := decide_eq_true c4
   clear c4
   by_cases c6 : (bt s0_0 s0_1) = a1
   ·
    rw [if_pos c6] at H
    have c6b0 := beq_iff_eq.mpr c6
    have c6b1 := bne_eq_false_iff_eq.mpr c6
    clear c6
    simp only [Option.some.injEq, Prod.mk.injEq] at H
    obtain ⟨rfl, rfl, rfl⟩ := H
    obtain ⟨HGz7, hgz7⟩ := HI0.out
    have hz7 := zc2 HGz7
    clear HGz7 hgz7
    have p5 : 0 ≤ (s0_1 : Int) := dT
    have q5 : s0_1 < (s0_0.size : Int) := dT
    have hx5 := bt_at s0_0 s0_1
    replace p5 := eq_true p5
    replace q5 := eq_true q5
    go_enter Tryz.func76, Tryz.ntmps76
    go_wp2
    repeat (go_quiet (fail); try go_wp2)
    go_ret
    exact ⟨zX, zI79 HI0.out, zC79 HB.out, zK HK.out⟩
   rw [if_neg c6] at H
   have c6b0 := beq_eq_false_iff_ne.mpr c6
   have c6b1 := bne_iff_ne.mpr c6
   simp only [Option.some.injEq, Prod.mk.injEq] at H
   obtain ⟨rfl, rfl, rfl⟩ := H
   obtain ⟨HGz8, hgz8⟩ := HI0.out
   have hz8 := zc2 HGz8
   clear HGz8 hgz8
   have p5 : 0 ≤ (s0_1 : Int) := dT
   have q5 : s0_1 < (s0_0.size : Int) := dT
   have hx5 := bt_at s0_0 s0_1
   replace p5 := eq_true p5
   replace q5 := eq_true q5
   go_enter Tryz.func76, Tryz.ntmps76
   go_wp2
   repeat (go_quiet (fail); try go_wp2)
   go_ret
   exact ⟨zX, zI79 HI0.out, zC79 HB.out, zK HK.out⟩
  rw [if_neg c4] at H
  exact absurd H (by simp)
 rw [if_neg c3] at H
 have c3b0 := decide_eq_false c3
 clear c3
 simp only [Option.some.injEq, Prod.mk.injEq] at H
 obtain ⟨rfl, rfl, rfl⟩ := H
 obtain ⟨HGz9, hgz9⟩ := HI0.out
 have hz9 := zc2 HGz9
 clear HGz9 hgz9
 go_enter Tryz.func76, Tryz.ntmps76
 go_wp2
 repeat (go_quiet (fail); try go_wp2)
 go_ret
 exact ⟨zX, zI79 HI0.out, zC79 HB.out, zK HK.out⟩
def d_.l0 : Nat → Int → Int → ByteArray → Int → Option (Bool × ByteArray × Int)
  | 0, _, _, _, _ => none
  | k + 1, x3, x4, x1000, x1001 => if 48 ≤ x4 then (if x4 ≤ 57 then ((her_.f x1000 (wrap64 (x1001 + 1))).bind fun bt117 => (d_.l0 k x3 bt117.1 bt117.2.1 bt117.2.2)) else (some (decide (x1001 > x3), x1000, x1001))) else (some (decide (x1001 > x3), x1000, x1001))
def d_.f (k : Nat) (s0_0 : ByteArray) (s0_1 : Int) : Option (Bool × ByteArray × Int) := (her_.f s0_0 s0_1).bind fun bt114 => (d_.l0 k s0_1 bt114.1 bt114.2.1 bt114.2.2)
set_option maxHeartbeats 8000000 in
set_option maxRecDepth 100000 in
theorem d_.calls (k : Nat) (g : Nat) (s0_0 : ByteArray) (s0_1 : Int) (r1 : Bool) (r2 : ByteArray) (r3 : Int) (w0 w : World) (hI : IsS79 w0 w g s0_0 s0_1) (hB : Below w0.heap.size w0 w) (h : d_.f k s0_0 s0_1 = some (r1, r2, r3)) :
    Calls Tryz.prog 78 #[.pointer (some ⟨g, 0, none⟩)] w fun e w' => e = .returned (.bool r1) ∧ IsS79 w0 w' g r2 r3 ∧ Below w0.heap.size w0 w' ∧ KeepBut w w' g none := by
 have HI0 := Aside0.mk hI
 have HK := Aside0.mk (KeepBut.refl w g none)
 have HL := Aside0.mk hB.size
 clear hI
 have HW0 := Aside0.mk hB.size
 have HB := Aside0.mk hB
 clear hB
 have H : ((her_.f s0_0 s0_1).bind fun bt114 => (d_.l0 k s0_1 bt114.1 bt114.2.1 bt114.2.2)) = some (r1, r2, r3) := h
 clear h
 replace H := Option.bind_eq_some_iff.mp H
 obtain ⟨⟨t114, t115, t116⟩, A20, H⟩ := H
 try dsimp only at H
 have A2 := Aside0.mk A20
 clear A20
 have H' := Aside0.mk H
 clear H
 obtain ⟨HGz3, hgz3⟩ := HI0.out
 have hz3 := zc2 HGz3
 clear HGz3 hgz3
 go_enter Tryz.func78, Tryz.ntmps78
 go_wp2_with (first | ((with_reducible refine gate_callee (f := 56) rfl ?_); refine zG (some 10) Tryz.func56 (her_.calls g s0_0 s0_1 t114 t115 t116 w0 _ (zI79 HI0.out) (zC79 HB.out) A2.out) HK ?_; clear HI0 HB HK; intro w4 HI0 HB HK))
 try simp only [Act.put, List.setIfInBounds_toArray, List.set_cons_succ, List.set_cons_zero]
 go_loopg [4] k (fun kq v4 w' => ∃ (x4_1 : Int) (x1000_1 : ByteArray) (x1001_1 : Int), v4 = .int .u8 x4_1 ∧ Aside0 (d_.l0 kq s0_1 x4_1 x1000_1 x1001_1 = some (r1, r2, r3)) ∧ Aside0 (kq ≤ k) ∧ Aside0 (IsS79 w0 w' g x1000_1 x1001_1) ∧ Aside0 (KeepBut w w' g none) ∧ Aside0 (Below w0.heap.size w0 w'))
 case atStart => exact ⟨(t114), (t115), (t116), zE, H', ⟨Nat.le_refl _⟩, ⟨zI79 HI0.out⟩, ⟨zK HK.out⟩, ⟨zC79 HB.out⟩⟩
 case round =>
  clear H'
  (try clear hz3)
  obtain ⟨x4_1, x1000_1, x1001_1, rfl, HA, HK1, HI0, HK, HB⟩ := hrel
  rcases gk with _ | k1
  · exact absurd HA.out (by simp [d_.l0])
  have H := HA.out
  clear HA
  simp only [d_.l0] at H
  by_cases c5 : 48 ≤ x4_1
  ·
   rw [if_pos c5] at H
   have c5b0 := decide_eq_true c5
   clear c5
   by_cases c6 : x4_1 ≤ 57
   ·
    rw [if_pos c6] at H
    have c6b0 := decide_eq_true c6
    clear c6
    replace H := Option.bind_eq_some_iff.mp H
    obtain ⟨⟨t117, t118, t119⟩, A70, H⟩ := H
    try dsimp only at H
    have A7 := Aside0.mk A70
    clear A70
    have H' := Aside0.mk H
    clear H
    obtain ⟨HGz8, hgz8⟩ := HI0.out
    have hz8 := zc2 HGz8
    clear HGz8 hgz8
    go_wp2_with (first | ((with_reducible refine gate_callee (f := 56) rfl ?_); refine zG (some 18) Tryz.func56 (her_.calls g x1000_1 (wrap64 (x1001_1 + 1)) t117 t118 t119 w0 _ (zI79 HI0.out) (zC79 HB.out) A7.out) HK ?_; clear HI0 HB HK; intro w9 HI0 HB HK))
    go_roundg k1
    case measure => have := HK1.out; omega
    case rel => exact ⟨(t117), (t118), (t119), zE, H', ⟨by have := HK1.out; omega⟩, ⟨zI79 HI0.out⟩, ⟨zK HK.out⟩, ⟨zC79 HB.out⟩⟩
   rw [if_neg c6] at H
   have c6b0 := decide_eq_false c6
   clear c6
   simp only [Option.some.injEq, Prod.mk.injEq] at H
   obtain ⟨rfl, rfl, rfl⟩ := H
   obtain ⟨HGz10, hgz10⟩ := HI0.out
   have hz10 := zc2 HGz10
   clear HGz10 hgz10
   go_wp2
   go_ret
   exact ⟨zX, zI79 HI0.out, zC79 HB.out, zK HK.out⟩
  rw [if_neg c5] at H
  have c5b0 := decide_eq_false c5
  clear c5
  simp only [Option.some.injEq, Prod.mk.injEq] at H
  obtain ⟨rfl, rfl, rfl⟩ := H
  obtain ⟨HGz11, hgz11⟩ := HI0.out
  have hz11 := zc2 HGz11
  clear HGz11 hgz11
  go_wp2
  go_ret
  exact ⟨zX, zI79 HI0.out, zC79 HB.out, zK HK.out⟩
end Go.Proofs.YtpdohioobbfncaaGreatDoor.PFnJpWildStop