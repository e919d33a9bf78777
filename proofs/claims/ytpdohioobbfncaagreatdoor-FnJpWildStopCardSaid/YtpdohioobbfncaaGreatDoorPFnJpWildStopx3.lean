/- what the Go functions that the law FnJpWildStop reaches compute, each as a plain function, with the proof that the Go code computes just that; no condition beside those that each theorem states. -/
import Derived.Test.YtpdohioobbfncaaGreatDoorPFnJpWildStopx0
import Derived.Test.YtpdohioobbfncaaGreatDoorPFnJpWildStopx1
import Derived.Test.YtpdohioobbfncaaGreatDoorPFnJpWildStopx2
namespace Go.Proofs.YtpdohioobbfncaaGreatDoor.PFnJpWildStop
open Go.RowKit Go.Proofs.YtpdohioobbfncaaGreatDoorW.PrintWords Go.Proofs.YtpdohioobbfncaaGreatDoorW.PrintLast Go.Proofs.YtpdohioobbfncaaGreatDoorW.PrintMore
set_option linter.unusedVariables false
set_option linter.unusedSimpArgs false
mutual
def n_.j0 : Nat → Bool → ByteArray → Int → Option (Bool × ByteArray × Int)
  | 0, _, _, _ => none
  | k + 1, x12, x1000, x1001 => if x12 = true then (some (false, x1000, x1001)) else ((t_.f x1000 x1001 46).bind fun bt129 => (if bt129.1 = true then ((d_.f k bt129.2.1 bt129.2.2).bind fun bt132 => (n_.j1 k (!bt132.1) bt132.2.1 bt132.2.2)) else (n_.j1 k false bt129.2.1 bt129.2.2)))
def n_.j1 : Nat → Bool → ByteArray → Int → Option (Bool × ByteArray × Int)
  | 0, _, _, _ => none
  | k + 1, x19, x1000, x1001 => if x19 = true then (some (false, x1000, x1001)) else ((t_.f x1000 x1001 101).bind fun bt135 => (if bt135.1 = true then (n_.j2 k true bt135.2.1 bt135.2.2) else ((t_.f bt135.2.1 bt135.2.2 69).bind fun bt138 => (n_.j2 k bt138.1 bt138.2.1 bt138.2.2))))
def n_.j2 : Nat → Bool → ByteArray → Int → Option (Bool × ByteArray × Int)
  | 0, _, _, _ => none
  | k + 1, x25, x1000, x1001 => if x25 = true then ((t_.f x1000 x1001 43).bind fun bt141 => (if bt141.1 = true then ((d_.f k bt141.2.1 bt141.2.2).bind fun bt144 => (some (bt144.1, bt144.2.1, bt144.2.2))) else ((t_.f bt141.2.1 bt141.2.2 45).bind fun bt147 => ((d_.f k bt147.2.1 bt147.2.2).bind fun bt150 => (some (bt150.1, bt150.2.1, bt150.2.2)))))) else (some (true, x1000, x1001))
end
def n_.f (k : Nat) (s0_0 : ByteArray) (s0_1 : Int) : Option (Bool × ByteArray × Int) := (t_.f s0_0 s0_1 45).bind fun bt120 => ((t_.f bt120.2.1 bt120.2.2 48).bind fun bt123 => (if bt123.1 = true then (n_.j0 k false bt123.2.1 bt123.2.2) else ((d_.f k bt123.2.1 bt123.2.2).bind fun bt126 => (n_.j0 k (!bt126.1) bt126.2.1 bt126.2.2))))
set_option maxHeartbeats 8000000 in
set_option maxRecDepth 100000 in
theorem n_.calls (k : Nat) (g : Nat) (s0_0 : ByteArray) (s0_1 : Int) (r1 : Bool) (r2 : ByteArray) (r3 : Int) (w0 w : World) (hI : IsS79 w0 w g s0_0 s0_1) (hB : Below w0.heap.size w0 w) (h : n_.f k s0_0 s0_1 = some (r1, r2, r3)) :
    Calls Tryz.prog 60 #[.pointer (some ⟨g, 0, none⟩)] w fun e w' => e = .returned (.bool r1) ∧ IsS79 w0 w' g r2 r3 ∧ Below w0.heap.size w0 w' ∧ KeepBut w w' g none := by
 have HI0 := Aside0.mk hI
 have HK := Aside0.mk (KeepBut.refl w g none)
 have HL := Aside0.mk hB.size
 clear hI
 have HW0 := Aside0.mk hB.size
 have HB := Aside0.mk hB
 clear hB
 have H : ((t_.f s0_0 s0_1 45).bind fun bt120 => ((t_.f bt120.2.1 bt120.2.2 48).bind fun bt123 => (if bt123.1 = true then (n_.j0 k false bt123.2.1 bt123.2.2) else ((d_.f k bt123.2.1 bt123.2.2).bind fun bt126 => (n_.j0 k (!bt126.1) bt126.2.1 bt126.2.2))))) = some (r1, r2, r3) := h
 clear h
 replace H := Option.bind_eq_some_iff.mp H
 obtain ⟨⟨t120, t121, t122⟩, A20, H⟩ := H
 try dsimp only at H
 have A2 := Aside0.mk A20
 clear A20
 have HC3 := Aside0.mk H
 clear H
 go_enter Tryz.func60, Tryz.ntmps60
 go_upto_region 2 with (first | ((with_reducible refine gate_callee (f := 76) rfl ?_); refine zG (some 4) Tryz.func76 (t_.calls g s0_0 s0_1 45 t120 t121 t122 w0 _ (zI79 HI0.out) (zC79 HB.out) A2.out) HK ?_; clear HI0 HB HK; intro w4 HI0 HB HK))
 (try simp only [Act.put, List.setIfInBounds_toArray, List.set_cons_zero, List.set_cons_succ])
 go_cut [12] (fun v12 wc => ∃ (kq : Nat) (x12_2 : Bool) (x1000_2 : ByteArray) (x1001_2 : Int), v12 = .bool x12_2 ∧ Aside0 (n_.j0 kq x12_2 x1000_2 x1001_2 = some (r1, r2, r3)) ∧ Aside0 (kq ≤ k) ∧ Aside0 (IsS79 w0 wc g x1000_2 x1001_2) ∧ Aside0 (KeepBut w wc g none) ∧ Aside0 (Below w0.heap.size w0 wc))
 case first =>
  have H := HC3.out
  clear HC3
  replace H := Option.bind_eq_some_iff.mp H
  obtain ⟨⟨t123, t124, t125⟩, A50, H⟩ := H
  try dsimp only at H
  have A5 := Aside0.mk A50
  clear A50
  by_cases c6 : t123 = true
  ·
   subst c6
   rw [if_pos rfl] at H
   have H' := Aside0.mk H
   clear H
   go_wp2_with (first | ((with_reducible refine gate_callee (f := 76) rfl ?_); refine zG (some 6) Tryz.func76 (t_.calls g t121 t122 48 true t124 t125 w0 _ (zI79 HI0.out) (zC79 HB.out) A5.out) HK ?_; clear HI0 HB HK; intro w7 HI0 HB HK))
   go_meet
   case rel => exact ⟨_, (false), (t124), (t125), zE, H', ⟨by first | omega | exact Nat.le_refl _⟩, ⟨zI79 HI0.out⟩, ⟨zK HK.out⟩, ⟨zC79 HB.out⟩⟩
  replace c6 := Bool.eq_false_iff.mpr c6
  subst c6
  rw [if_neg Bool.false_ne_true] at H
  replace H := Option.bind_eq_some_iff.mp H
  obtain ⟨⟨t126, t127, t128⟩, A80, H⟩ := H
  try dsimp only at H
  have A8 := Aside0.mk A80
  clear A80
  have H' := Aside0.mk H
  clear H
  go_wp2_with (first | ((with_reducible refine gate_callee (f := 76) rfl ?_); refine zG (some 6) Tryz.func76 (t_.calls g t121 t122 48 false t124 t125 w0 _ (zI79 HI0.out) (zC79 HB.out) A5.out) HK ?_; clear HI0 HB HK; intro w9 HI0 HB HK) | (go_at_call 78; with_reducible refine zA (d_.calls k g t124 t125 t126 t127 t128 w0 _ (zI79 HI0.out) (zC79 HB.out) A8.out) HK ?_; clear HI0 HB HK; intro w10 HI0 HB HK))
  go_meet
  case rel => exact ⟨_, (!t126), (t127), (t128), zE, H', ⟨by first | omega | exact Nat.le_refl _⟩, ⟨zI79 HI0.out⟩, ⟨zK HK.out⟩, ⟨zC79 HB.out⟩⟩
 clear HC3
 obtain ⟨kq, x12_2, x1000_2, x1001_2, rfl, HA, HJ2, HI0, HK, HB⟩ := hcut
 rcases kq with _ | kj2
 · exact absurd HA.out (by simp [n_.j0])
 have H := HA.out
 clear HA
 simp only [n_.j0] at H
 by_cases c11 : x12_2 = true
 ·
  subst c11
  rw [if_pos rfl] at H
  simp only [Option.some.injEq, Prod.mk.injEq] at H
  obtain ⟨rfl, rfl, rfl⟩ := H
  go_wp2
  go_ret
  exact ⟨zX, zI79 HI0.out, zC79 HB.out, zK HK.out⟩
 replace c11 := Bool.eq_false_iff.mpr c11
 subst c11
 rw [if_neg Bool.false_ne_true] at H
 have HC12 := Aside0.mk H
 clear H
 go_upto_region 4 with (fail)
 go_cut [19] (fun v19 wc => ∃ (kq : Nat) (x19_11 : Bool) (x1000_11 : ByteArray) (x1001_11 : Int), v19 = .bool x19_11 ∧ Aside0 (n_.j1 kq x19_11 x1000_11 x1001_11 = some (r1, r2, r3)) ∧ Aside0 (kq ≤ kj2) ∧ Aside0 (IsS79 w0 wc g x1000_11 x1001_11) ∧ Aside0 (KeepBut w wc g none) ∧ Aside0 (Below w0.heap.size w0 wc))
 case first =>
  have H := HC12.out
  clear HC12
  replace H := Option.bind_eq_some_iff.mp H
  obtain ⟨⟨t129, t130, t131⟩, A130, H⟩ := H
  try dsimp only at H
  have A13 := Aside0.mk A130
  clear A130
  by_cases c14 : t129 = true
  ·
   subst c14
   rw [if_pos rfl] at H
   replace H := Option.bind_eq_some_iff.mp H
   obtain ⟨⟨t132, t133, t134⟩, A150, H⟩ := H
   try dsimp only at H
   have A15 := Aside0.mk A150
   clear A150
   have H' := Aside0.mk H
   clear H
   go_wp2_with (first | ((with_reducible refine gate_callee (f := 76) rfl ?_); refine zG (some 14) Tryz.func76 (t_.calls g x1000_2 x1001_2 46 true t130 t131 w0 _ (zI79 HI0.out) (zC79 HB.out) A13.out) HK ?_; clear HI0 HB HK; intro w16 HI0 HB HK) | (go_at_call 78; with_reducible refine zA (d_.calls kj2 g t130 t131 t132 t133 t134 w0 _ (zI79 HI0.out) (zC79 HB.out) A15.out) HK ?_; clear HI0 HB HK; intro w17 HI0 HB HK))
   go_meet
   case rel => exact ⟨_, (!t132), (t133), (t134), zE, H', ⟨by have := HJ2.out; first | omega | exact Nat.le_refl _⟩, ⟨zI79 HI0.out⟩, ⟨zK HK.out⟩, ⟨zC79 HB.out⟩⟩
  replace c14 := Bool.eq_false_iff.mpr c14
  subst c14
  rw [if_neg Bool.false_ne_true] at H
  have H' := Aside0.mk H
  clear H
  go_wp2_with (first | ((with_reducible refine gate_callee (f := 76) rfl ?_); refine zG (some 14) Tryz.func76 (t_.calls g x1000_2 x1001_2 46 false t130 t131 w0 _ (zI79 HI0.out) (zC79 HB.out) A13.out) HK ?_; clear HI0 HB HK; intro w18 HI0 HB HK))
  go_meet
  case rel => exact ⟨_, (false), (t130), (t131), zE, H', ⟨by have := HJ2.out; first | omega | exact Nat.le_refl _⟩, ⟨zI79 HI0.out⟩, ⟨zK HK.out⟩, ⟨zC79 HB.out⟩⟩
 clear HC12
 (try clear c11)
 obtain ⟨kq, x19_11, x1000_11, x1001_11, rfl, HA, HJ11, HI0, HK, HB⟩ := hcut
 rcases kq with _ | kj11
 · exact absurd HA.out (by simp [n_.j1])
 have H := HA.out
 clear HA
 simp only [n_.j1] at H
 by_cases c19 : x19_11 = true
 ·
  subst c19
  rw [if_pos rfl] at H
  simp only [Option.some.injEq, Prod.mk.injEq] at H
  obtain ⟨rfl, rfl, rfl⟩ := H
  go_wp2
  go_ret
  exact ⟨zX, zI79 HI0.out, zC79 HB.out, zK HK.out⟩
 replace c19 := Bool.eq_false_iff.mpr c19
 subst c19
 rw [if_neg Bool.false_ne_true] at H
 have HC20 := Aside0.mk H
 clear H
 go_upto_region 6 with (fail)
 go_cut [25] (fun v25 wc => ∃ (kq : Nat) (x25_19 : Bool) (x1000_19 : ByteArray) (x1001_19 : Int), v25 = .bool x25_19 ∧ Aside0 (n_.j2 kq x25_19 x1000_19 x1001_19 = some (r1, r2, r3)) ∧ Aside0 (kq ≤ kj11) ∧ Aside0 (IsS79 w0 wc g x1000_19 x1001_19) ∧ Aside0 (KeepBut w wc g none) ∧ Aside0 (Below w0.heap.size w0 wc))
 case first =>
  have H := HC20.out
  clear HC20
  replace H := Option.bind_eq_some_iff.mp H
  obtain ⟨⟨t135, t136, t137⟩, A210, H⟩ := H
  try dsimp only at H
  have A21 := Aside0.mk A210
  clear A210
  by_cases c22 : t135 = true
  ·
   subst c22
   rw [if_pos rfl] at H
   have H' := Aside0.mk H
   clear H
   go_wp2_with (first | ((with_reducible refine gate_callee (f := 76) rfl ?_); refine zG (some 21) Tryz.func76 (t_.calls g x1000_11 x1001_11 101 true t136 t137 w0 _ (zI79 HI0.out) (zC79 HB.out) A21.out) HK ?_; clear HI0 HB HK; intro w23 HI0 HB HK))
   go_meet
   case rel => exact ⟨_, (true), (t136), (t137), zE, H', ⟨by have := HJ2.out; have := HJ11.out; first | omega | exact Nat.le_refl _⟩, ⟨zI79 HI0.out⟩, ⟨zK HK.out⟩, ⟨zC79 HB.out⟩⟩
  replace c22 := Bool.eq_false_iff.mpr c22
  subst c22
  rw [if_neg Bool.false_ne_true] at H
  replace H := Option.bind_eq_some_iff.mp H
  obtain ⟨⟨t138, t139, t140⟩, A240, H⟩ := H
  try dsimp only at H
  have A24 := Aside0.mk A240
  clear A240
  have H' := Aside0.mk H
  clear H
  go_wp2_with (first | ((with_reducible refine gate_callee (f := 76) rfl ?_); refine zG (some 21) Tryz.func76 (t_.calls g x1000_11 x1001_11 101 false t136 t137 w0 _ (zI79 HI0.out) (zC79 HB.out) A21.out) HK ?_; clear HI0 HB HK; intro w25 HI0 HB HK) | (go_at_call 76; with_reducible refine zA (t_.calls g t136 t137 69 t138 t139 t140 w0 _ (zI79 HI0.out) (zC79 HB.out) A24.out) HK ?_; clear HI0 HB HK; intro w26 HI0 HB HK))
  go_meet
  case rel => exact ⟨_, (t138), (t139), (t140), zE, H', ⟨by have := HJ2.out; have := HJ11.out; first | omega | exact Nat.le_refl _⟩, ⟨zI79 HI0.out⟩, ⟨zK HK.out⟩, ⟨zC79 HB.out⟩⟩
 clear HC20
 (try clear c11); (try clear c19)
 obtain ⟨kq, x25_19, x1000_19, x1001_19, rfl, HA, HJ19, HI0, HK, HB⟩ := hcut
 rcases kq with _ | kj19
 · exact absurd HA.out (by simp [n_.j2])
 have H := HA.out
 clear HA
 simp only [n_.j2] at H
 by_cases c27 : x25_19 = true
 ·
  subst c27
  rw [if_pos rfl] at H
  replace H := Option.bind_eq_some_iff.mp H
  obtain ⟨⟨t141, t142, t143⟩, A280, H⟩ := H
  try dsimp only at H
  have A28 := Aside0.mk A280
  clear A280
  by_cases c29 : t141 = true
  ·
   subst c29
   rw [if_pos rfl] at H
   replace H := Option.bind_eq_some_iff.mp H
   obtain ⟨⟨t144, t145, t146⟩, A300, H⟩ := H
   try dsimp only at H
   have A30 := Aside0.mk A300
   clear A300
   simp only [Option.some.injEq, Prod.mk.injEq] at H
   obtain ⟨rfl, rfl, rfl⟩ := H
   go_wp2_with (first | ((with_reducible refine gate_callee (f := 76) rfl ?_); refine zG (some 27) Tryz.func76 (t_.calls g x1000_19 x1001_19 43 true t142 t143 w0 _ (zI79 HI0.out) (zC79 HB.out) A28.out) HK ?_; clear HI0 HB HK; intro w31 HI0 HB HK) | ((with_reducible refine gate_callee (f := 78) rfl ?_); refine zG (some 32) Tryz.func78 (d_.calls kj19 g t142 t143 t144 t145 t146 w0 _ (zI79 HI0.out) (zC79 HB.out) A30.out) HK ?_; clear HI0 HB HK; intro w32 HI0 HB HK))
   go_ret
   exact ⟨zX, zI79 HI0.out, zC79 HB.out, zK HK.out⟩
  replace c29 := Bool.eq_false_iff.mpr c29
  subst c29
  rw [if_neg Bool.false_ne_true] at H
  replace H := Option.bind_eq_some_iff.mp H
  obtain ⟨⟨t147, t148, t149⟩, A330, H⟩ := H
  try dsimp only at H
  have A33 := Aside0.mk A330
  clear A330
  replace H := Option.bind_eq_some_iff.mp H
  obtain ⟨⟨t150, t151, t152⟩, A340, H⟩ := H
  try dsimp only at H
  have A34 := Aside0.mk A340
  clear A340
  simp only [Option.some.injEq, Prod.mk.injEq] at H
  obtain ⟨rfl, rfl, rfl⟩ := H
  go_wp2_with (first | ((with_reducible refine gate_callee (f := 76) rfl ?_); refine zG (some 27) Tryz.func76 (t_.calls g x1000_19 x1001_19 43 false t142 t143 w0 _ (zI79 HI0.out) (zC79 HB.out) A28.out) HK ?_; clear HI0 HB HK; intro w35 HI0 HB HK) | ((with_reducible refine gate_callee (f := 76) rfl ?_); refine zG (some 30) Tryz.func76 (t_.calls g t142 t143 45 t147 t148 t149 w0 _ (zI79 HI0.out) (zC79 HB.out) A33.out) HK ?_; clear HI0 HB HK; intro w36 HI0 HB HK) | ((with_reducible refine gate_callee (f := 78) rfl ?_); refine zG (some 32) Tryz.func78 (d_.calls kj19 g t148 t149 t150 t151 t152 w0 _ (zI79 HI0.out) (zC79 HB.out) A34.out) HK ?_; clear HI0 HB HK; intro w37 HI0 HB HK))
  go_ret
  exact ⟨zX, zI79 HI0.out, zC79 HB.out, zK HK.out⟩
 replace c27 := Bool.eq_false_iff.mpr c27
 subst c27
 rw [if_neg Bool.false_ne_true] at H
 simp only [Option.some.injEq, Prod.mk.injEq] at H
 obtain ⟨rfl, rfl, rfl⟩ := H
 go_wp2
 go_ret
 exact ⟨zX, zI79 HI0.out, zC79 HB.out, zK HK.out⟩
def w_.f (s0_0 : ByteArray) (s0_1 : Int) (a1 : ByteArray) : Option (Bool × ByteArray × Int) := if (wrap64 ((s0_0.size : Int) - s0_1)) < (a1.size : Int) then (some (false, s0_0, s0_1)) else (if 0 ≤ s0_1 then (if s0_1 ≤ (wrap64 (s0_1 + (a1.size : Int))) then (if (wrap64 (s0_1 + (a1.size : Int))) ≤ (s0_0.size : Int) then (if (s0_0.extract (s0_1 : Int).toNat ((wrap64 (s0_1 + (a1.size : Int))) : Int).toNat).toList = a1.toList then (some (true, s0_0, wrap64 (s0_1 + (a1.size : Int)))) else (some (false, s0_0, s0_1))) else (none)) else (none)) else (none))
set_option maxHeartbeats 8000000 in
set_option maxRecDepth 100000 in
theorem w_.calls (g : Nat) (s0_0 : ByteArray) (s0_1 : Int) (a1 : ByteArray) (r1 : Bool) (r2 : ByteArray) (r3 : Int) (w0 w : World) (hI : IsS79 w0 w g s0_0 s0_1) (hB : Below w0.heap.size w0 w) (h : w_.f s0_0 s0_1 a1 = some (r1, r2, r3)) :
    Calls Tryz.prog 61 #[.pointer (some ⟨g, 0, none⟩), .string a1] w fun e w' => e = .returned (.bool r1) ∧ IsS79 w0 w' g r2 r3 ∧ Below w0.heap.size w0 w' ∧ KeepBut w w' g none := by
 have HI0 := Aside0.mk hI
 have HK := Aside0.mk (KeepBut.refl w g none)
 have HL := Aside0.mk hB.size
 clear hI
 have HW0 := Aside0.mk hB.size
 have HB := Aside0.mk hB
 clear hB
 have H : (if (wrap64 ((s0_0.size : Int) - s0_1)) < (a1.size : Int) then (some (false, s0_0, s0_1)) else (if 0 ≤ s0_1 then (if s0_1 ≤ (wrap64 (s0_1 + (a1.size : Int))) then (if (wrap64 (s0_1 + (a1.size : Int))) ≤ (s0_0.size : Int) then (if (s0_0.extract (s0_1 : Int).toNat ((wrap64 (s0_1 + (a1.size : Int))) : Int).toNat).toList = a1.toList then (some (true, s0_0, wrap64 (s0_1 + (a1.size : Int)))) else (some (false, s0_0, s0_1))) else (none)) else (none)) else (none))) = some (r1, r2, r3) := h
 clear h
 by_cases c3 : (wrap64 ((s0_0.size : Int) - s0_1)) < (a1.size : Int)
 ·
  rw [if_pos c3] at H
  have c3b0 := decide_eq_true c3
  clear c3
  simp only [Option.some.injEq, Prod.mk.injEq] at H
  obtain ⟨rfl, rfl, rfl⟩ := H
  obtain ⟨HGz4, hgz4⟩ := HI0.out
  have hz4 := zc2 HGz4
  clear HGz4 hgz4
  go_enter Tryz.func61, Tryz.ntmps61
  go_wp2
  repeat (go_quiet (fail); try go_wp2)
  go_ret
  exact ⟨zX, zI79 HI0.out, zC79 HB.out, zK HK.out⟩
 rw [if_neg c3] at H
 have c3b0 := decide_eq_false c3
 clear c3
 by_cases c5 : 0 ≤ s0_1
 ·
  rw [if_pos c5] at H
  have c5b0 := eq_true c5
  have c5b1 := decide_eq_true c5
  clear c5
  by_cases c6 : s0_1 ≤ (wrap64 (s0_1 + (a1.size : Int)))
  ·
   rw [if_pos c6] at H
   have c6b0 := eq_true c6
   have c6b1 := decide_eq_true c6
   by_cases c7 : (wrap64 (s0_1 + (a1.size : Int))) ≤ (s0_0.size : Int)
   ·
    rw [if_pos c7] at H
    have c7b0 := eq_true c7
    have c7b1 := decide_eq_true c7
    by_cases c8 : (s0_0.extract (s0_1 : Int).toNat ((wrap64 (s0_1 + (a1.size : Int))) : Int).toNat).toList = a1.toList
    ·
     rw [if_pos c8] at H
     have c8b0 := beq_iff_eq.mpr c8
     have c8b1 := bne_eq_false_iff_eq.mpr c8
     clear c8
     simp only [Option.some.injEq, Prod.mk.injEq] at H
     obtain ⟨rfl, rfl, rfl⟩ := H
     obtain ⟨HGz9, hgz9⟩ := HI0.out
     have hz9 := zc2 HGz9
     clear HGz9 hgz9
     go_enter Tryz.func61, Tryz.ntmps61
     go_wp2
     repeat (go_quiet (fail); try go_wp2)
     go_ret
     exact ⟨zX, zI79 HI0.out, zC79 HB.out, zK HK.out⟩
    rw [if_neg c8] at H
    have c8b0 := beq_eq_false_iff_ne.mpr c8
    have c8b1 := bne_iff_ne.mpr c8
    simp only [Option.some.injEq, Prod.mk.injEq] at H
    obtain ⟨rfl, rfl, rfl⟩ := H
    obtain ⟨HGz10, hgz10⟩ := HI0.out
    have hz10 := zc2 HGz10
    clear HGz10 hgz10
    go_enter Tryz.func61, Tryz.ntmps61
    go_wp2
    repeat (go_quiet (fail); try go_wp2)
    go_ret
    exact ⟨zX, zI79 HI0.out, zC79 HB.out, zK HK.out⟩
   rw [if_neg c7] at H
   exact absurd H (by simp)
  rw [if_neg c6] at H
  exact absurd H (by simp)
 rw [if_neg c5] at H
 exact absurd H (by simp)
mutual
def v_.j0 : Nat → Bool → Bool → ByteArray → Int → Int → Int → Int → Option (Int × Int × Int × (List (S64)) × (List (S27)) × Bool × ByteArray × Int)
  | 0, _, _, _, _, _, _, _ => none
  | k + 1, x5, x42, x1000, x1001, x155000, x155001, x155002 => if x42 = true then ((n_.f k x1000 x1001).bind fun bt176 => (some (3, x155001, bt176.2.2, ([] : List (S64)), ([] : List (S27)), bt176.1, bt176.2.1, bt176.2.2))) else ((w_.f x1000 x1001 (⟨#[110, 117, 108, 108]⟩ : ByteArray)).bind fun bt179 => (if bt179.1 = true then (some (0, x155001, bt179.2.2, ([] : List (S64)), ([] : List (S27)), x5, bt179.2.1, bt179.2.2)) else ((w_.f bt179.2.1 bt179.2.2 (⟨#[102, 97, 108, 115, 101]⟩ : ByteArray)).bind fun bt182 => (if bt182.1 = true then (some (1, x155001, bt182.2.2, ([] : List (S64)), ([] : List (S27)), x5, bt182.2.1, bt182.2.2)) else ((w_.f bt182.2.1 bt182.2.2 (⟨#[116, 114, 117, 101]⟩ : ByteArray)).bind fun bt185 => (if bt185.1 = true then (some (2, x155001, bt185.2.2, ([] : List (S64)), ([] : List (S27)), x5, bt185.2.1, bt185.2.2)) else (some (x155000, x155001, bt185.2.2, ([] : List (S64)), ([] : List (S27)), false, bt185.2.1, bt185.2.2))))))))
def v_.f : Nat → ByteArray → Int → Option (Int × Int × Int × (List (S64)) × (List (S27)) × Bool × ByteArray × Int)
  | 0, _, _ => none
  | k + 1, s0_0, s0_1 => (her_.f s0_0 s0_1).bind fun bt155 => (if bt155.1 = 123 then ((mem_.f k bt155.2.1 bt155.2.2).bind fun bt158 => (some (6, s0_1, bt158.2.2.2.2, bt158.1, bt158.2.1, bt158.2.2.1, bt158.2.2.2.1, bt158.2.2.2.2))) else (if bt155.1 = 91 then ((ele_.f k bt155.2.1 bt155.2.2).bind fun bt167 => (some (5, s0_1, bt167.2.2.2, ([] : List (S64)), bt167.1, bt167.2.1, bt167.2.2.1, bt167.2.2.2))) else (if bt155.1 = 34 then ((q_.f k bt155.2.1 bt155.2.2).bind fun bt173 => (some (4, s0_1, bt173.2.2, ([] : List (S64)), ([] : List (S27)), bt173.1, bt173.2.1, bt173.2.2))) else (if bt155.1 = 45 then (v_.j0 k true true bt155.2.1 bt155.2.2 0 s0_1 0) else (if 48 ≤ bt155.1 then (v_.j0 k true (decide (bt155.1 ≤ 57)) bt155.2.1 bt155.2.2 0 s0_1 0) else (v_.j0 k true false bt155.2.1 bt155.2.2 0 s0_1 0))))))
def mem_.l0 : Nat → List (S64) → List (S27) → ByteArray → Int → Option ((List (S64)) × (List (S27)) × Bool × ByteArray × Int)
  | 0, _, _, _, _ => none
  | k + 1, x5, x6, x1000, x1001 => (her_.f x1000 x1001).bind fun bt193 => (if bt193.1 = 34 then ((q_.f k bt193.2.1 bt193.2.2).bind fun bt196 => (mem_.j1 k x5 x6 x1001 (!bt196.1) bt196.2.1 bt196.2.2)) else (mem_.j1 k x5 x6 x1001 true bt193.2.1 bt193.2.2))
def mem_.j1 : Nat → List (S64) → List (S27) → Int → Bool → ByteArray → Int → Option ((List (S64)) × (List (S27)) × Bool × ByteArray × Int)
  | 0, _, _, _, _, _, _ => none
  | k + 1, x5, x6, x7, x32, x1000, x1001 => if x32 = true then (some (([] : List (S64)), ([] : List (S27)), false, x1000, x1001)) else (if x5.length < 8796093022208 then ((some (x5 ++ [(⟨x7, x1001⟩ : S64)] : List (S64))).bind fun y199 => ((b_.f k x1000 x1001).bind fun bt202 => ((t_.f bt202.1 bt202.2 58).bind fun bt204 => (if bt204.1 = true then ((b_.f k bt204.2.1 bt204.2.2).bind fun bt207 => ((v_.f k bt207.1 bt207.2).bind fun bt209 => (if bt209.2.2.2.2.2.1 = true then (if x6.length < 1954687338268 then ((some (x6 ++ [(⟨bt209.1, bt209.2.1, bt209.2.2.1, bt209.2.2.2.1, bt209.2.2.2.2.1⟩ : S27)] : List (S27))).bind fun y222 => ((b_.f k bt209.2.2.2.2.2.2.1 bt209.2.2.2.2.2.2.2).bind fun bt225 => ((t_.f bt225.1 bt225.2 125).bind fun bt227 => (if bt227.1 = true then (some (y199, y222, true, bt227.2.1, bt227.2.2)) else ((t_.f bt227.2.1 bt227.2.2 44).bind fun bt230 => (if bt230.1 = true then ((b_.f k bt230.2.1 bt230.2.2).bind fun bt233 => (mem_.l0 k y199 y222 bt233.1 bt233.2)) else (some (([] : List (S64)), ([] : List (S27)), false, bt230.2.1, bt230.2.2)))))))) else (none)) else (some (([] : List (S64)), ([] : List (S27)), false, bt209.2.2.2.2.2.2.1, bt209.2.2.2.2.2.2.2))))) else (some (([] : List (S64)), ([] : List (S27)), false, bt204.2.1, bt204.2.2)))))) else (none))
def mem_.f : Nat → ByteArray → Int → Option ((List (S64)) × (List (S27)) × Bool × ByteArray × Int)
  | 0, _, _ => none
  | k + 1, s0_0, s0_1 => (b_.f k s0_0 (wrap64 (s0_1 + 1))).bind fun bt188 => ((t_.f bt188.1 bt188.2 125).bind fun bt190 => (if bt190.1 = true then (some (([] : List (S64)), ([] : List (S27)), true, bt190.2.1, bt190.2.2)) else (mem_.l0 k ([] : List (S64)) ([] : List (S27)) bt190.2.1 bt190.2.2)))
def ele_.l0 : Nat → List (S27) → ByteArray → Int → Option ((List (S27)) × Bool × ByteArray × Int)
  | 0, _, _, _ => none
  | k + 1, x4, x1000, x1001 => (v_.f k x1000 x1001).bind fun bt240 => (if bt240.2.2.2.2.2.1 = true then (if x4.length < 1954687338268 then ((some (x4 ++ [(⟨bt240.1, bt240.2.1, bt240.2.2.1, bt240.2.2.2.1, bt240.2.2.2.2.1⟩ : S27)] : List (S27))).bind fun y253 => ((b_.f k bt240.2.2.2.2.2.2.1 bt240.2.2.2.2.2.2.2).bind fun bt256 => ((t_.f bt256.1 bt256.2 93).bind fun bt258 => (if bt258.1 = true then (some (y253, true, bt258.2.1, bt258.2.2)) else ((t_.f bt258.2.1 bt258.2.2 44).bind fun bt261 => (if bt261.1 = true then ((b_.f k bt261.2.1 bt261.2.2).bind fun bt264 => (ele_.l0 k y253 bt264.1 bt264.2)) else (some (([] : List (S27)), false, bt261.2.1, bt261.2.2)))))))) else (none)) else (some (([] : List (S27)), false, bt240.2.2.2.2.2.2.1, bt240.2.2.2.2.2.2.2)))
def ele_.f : Nat → ByteArray → Int → Option ((List (S27)) × Bool × ByteArray × Int)
  | 0, _, _ => none
  | k + 1, s0_0, s0_1 => (b_.f k s0_0 (wrap64 (s0_1 + 1))).bind fun bt235 => ((t_.f bt235.1 bt235.2 93).bind fun bt237 => (if bt237.1 = true then (some (([] : List (S27)), true, bt237.2.1, bt237.2.2)) else (ele_.l0 k ([] : List (S27)) bt237.2.1 bt237.2.2)))
end
abbrev v_.CallsP (k : Nat) : Prop := ∀ (g : Nat) (s0_0 : ByteArray) (s0_1 : Int) (r1 : Int) (r2 : Int) (r3 : Int) (r4 : List (S64)) (r5 : List (S27)) (r6 : Bool) (r7 : ByteArray) (r8 : Int) (w0 w : World) (hI : IsS79 w0 w g s0_0 s0_1) (hB : Below w0.heap.size w0 w) (h : v_.f k s0_0 s0_1 = some (r1, r2, r3, r4, r5, r6, r7, r8)),
    Calls Tryz.prog 40 #[.pointer (some ⟨g, 0, none⟩)] w fun e w' => ∃ v3_ v4_ : Value, e = .returned (.tuple #[.agg #[.int .i64 r1, .int .i64 r2, .int .i64 r3, v3_, v4_], .bool r6]) ∧ Kd.R k64 64 w' w.heap.size (fun _ => True) v3_ r4 ∧ Kd.R k27 27 w' w.heap.size (fun k_ => some k_ ≠ (v3_ : Value).ownBlock) v4_ r5 ∧ IsS79 w0 w' g r7 r8 ∧ Below w0.heap.size w0 w' ∧ KeepBut w w' g none
abbrev mem_.CallsP (k : Nat) : Prop := ∀ (g : Nat) (s0_0 : ByteArray) (s0_1 : Int) (r1 : List (S64)) (r2 : List (S27)) (r3 : Bool) (r4 : ByteArray) (r5 : Int) (w0 w : World) (hI : IsS79 w0 w g s0_0 s0_1) (hB : Below w0.heap.size w0 w) (h : mem_.f k s0_0 s0_1 = some (r1, r2, r3, r4, r5)),
    Calls Tryz.prog 57 #[.pointer (some ⟨g, 0, none⟩)] w fun e w' => ∃ v0_ v1_ : Value, e = .returned (.tuple #[v0_, v1_, .bool r3]) ∧ Kd.R k64 64 w' w.heap.size (fun _ => True) v0_ r1 ∧ Kd.R k27 27 w' w.heap.size (fun k_ => some k_ ≠ (v0_ : Value).ownBlock) v1_ r2 ∧ IsS79 w0 w' g r4 r5 ∧ Below w0.heap.size w0 w' ∧ KeepBut w w' g none
abbrev ele_.CallsP (k : Nat) : Prop := ∀ (g : Nat) (s0_0 : ByteArray) (s0_1 : Int) (r1 : List (S27)) (r2 : Bool) (r3 : ByteArray) (r4 : Int) (w0 w : World) (hI : IsS79 w0 w g s0_0 s0_1) (hB : Below w0.heap.size w0 w) (h : ele_.f k s0_0 s0_1 = some (r1, r2, r3, r4)),
    Calls Tryz.prog 58 #[.pointer (some ⟨g, 0, none⟩)] w fun e w' => ∃ v0_ : Value, e = .returned (.tuple #[v0_, .bool r2]) ∧ Kd.R k27 27 w' w.heap.size (fun _ => True) v0_ r1 ∧ IsS79 w0 w' g r3 r4 ∧ Below w0.heap.size w0 w' ∧ KeepBut w w' g none
end Go.Proofs.YtpdohioobbfncaaGreatDoor.PFnJpWildStop