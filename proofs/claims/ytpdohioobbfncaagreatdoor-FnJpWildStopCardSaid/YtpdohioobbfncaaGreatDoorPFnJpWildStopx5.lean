/- what the Go functions that the law FnJpWildStop reaches compute, each as a plain function, with the proof that the Go code computes just that; no condition beside those that each theorem states. -/
import Derived.Test.YtpdohioobbfncaaGreatDoorPFnJpWildStopx0
import Derived.Test.YtpdohioobbfncaaGreatDoorPFnJpWildStopx1
import Derived.Test.YtpdohioobbfncaaGreatDoorPFnJpWildStopx2
import Derived.Test.YtpdohioobbfncaaGreatDoorPFnJpWildStopx3
import Derived.Test.YtpdohioobbfncaaGreatDoorPFnJpWildStopx4
namespace Go.Proofs.YtpdohioobbfncaaGreatDoor.PFnJpWildStop
open Go.RowKit Go.Proofs.YtpdohioobbfncaaGreatDoorW.PrintWords Go.Proofs.YtpdohioobbfncaaGreatDoorW.PrintLast Go.Proofs.YtpdohioobbfncaaGreatDoorW.PrintMore
set_option linter.unusedVariables false
set_option linter.unusedSimpArgs false
set_option maxHeartbeats 8000000 in
set_option maxRecDepth 100000 in
theorem mem_.calls_ (k : Nat) (ih_spec_reader_value : ∀ m_, m_ < k → v_.CallsP m_) (ih_spec_reader_members : ∀ m_, m_ < k → mem_.CallsP m_) (ih_spec_reader_elements : ∀ m_, m_ < k → ele_.CallsP m_) : mem_.CallsP k := by
 intro g s0_0 s0_1 r1 r2 r3 r4 r5 w0 w hI hB h
 cases k with
  | zero => exact absurd h (by simp [mem_.f])
  | succ k =>
 simp only [mem_.f] at h
 have hu64 := Tryz.underlying64
 have hu27 := Tryz.underlying27
 have HI0 := Aside0.mk hI
 have HK := Aside0.mk (KeepBut.refl w g none)
 have HL := Aside0.mk hB.size
 clear hI
 have HW0 := Aside0.mk hB.size
 have HB := Aside0.mk hB
 clear hB
 have H : ((b_.f k s0_0 (wrap64 (s0_1 + 1))).bind fun bt188 => ((t_.f bt188.1 bt188.2 125).bind fun bt190 => (if bt190.1 = true then (some (([] : List (S64)), ([] : List (S27)), true, bt190.2.1, bt190.2.2)) else (mem_.l0 k ([] : List (S64)) ([] : List (S27)) bt190.2.1 bt190.2.2)))) = some (r1, r2, r3, r4, r5) := h
 clear h
 replace H := Option.bind_eq_some_iff.mp H
 obtain ⟨⟨t188, t189⟩, A20, H⟩ := H
 try dsimp only at H
 have A2 := Aside0.mk A20
 clear A20
 replace H := Option.bind_eq_some_iff.mp H
 obtain ⟨⟨t190, t191, t192⟩, A30, H⟩ := H
 try dsimp only at H
 have A3 := Aside0.mk A30
 clear A30
 by_cases c4 : t190 = true
 subst c4
 rw [if_pos rfl] at H
 simp only [Option.some.injEq, Prod.mk.injEq] at H
 obtain ⟨rfl, rfl, rfl, rfl, rfl⟩ := H
 obtain ⟨HGz5, hgz5⟩ := HI0.out
 have hz5 := zc2 HGz5
 clear HGz5 hgz5
 go_enter Tryz.func57, Tryz.ntmps57
 rotate_left
 replace c4 := Bool.eq_false_iff.mpr c4
 subst c4
 rw [if_neg Bool.false_ne_true] at H
 have H' := Aside0.mk H
 clear H
 obtain ⟨HGz8, hgz8⟩ := HI0.out
 have hz8 := zc2 HGz8
 clear HGz8 hgz8
 go_enter Tryz.func57, Tryz.ntmps57
 rotate_left
 all_goals go_wp2_with (first | ((with_reducible refine gate_callee (f := 39) rfl ?_); refine zG (some 18) Tryz.func39 (b_.calls k g s0_0 (wrap64 (s0_1 + 1)) t188 t189 w0 _ (zI79 HI0.out) (zC79 HB.out) A2.out) HK ?_; clear HI0 HB HK; intro w6 HI0 HB HK) | ((with_reducible refine gate_callee (f := 76) rfl ?_); refine zG (some 20) Tryz.func76 (t_.calls g t188 t189 125 true t191 t192 w0 _ (zI79 HI0.out) (zC79 HB.out) A3.out) HK ?_; clear HI0 HB HK; intro w7 HI0 HB HK) | ((with_reducible refine gate_callee (f := 76) rfl ?_); refine zG (some 20) Tryz.func76 (t_.calls g t188 t189 125 false t191 t192 w0 _ (zI79 HI0.out) (zC79 HB.out) A3.out) HK ?_; clear HI0 HB HK; intro w10 HI0 HB HK))
 ·
  go_ret3
  exact ⟨_, _, zX, zN, zN, zI79 HI0.out, zC79 HB.out, zK HK.out⟩
 ·
  try simp only [Act.put, List.setIfInBounds_toArray, List.set_cons_succ, List.set_cons_zero]
  go_loopg [5, 6] k (fun kq v5 v6 w' => ∃ (x5_1 : List (S64)) (x6_1 : List (S27)) (x1000_1 : ByteArray) (x1001_1 : Int), Aside0 (mem_.l0 kq x5_1 x6_1 x1000_1 x1001_1 = some (r1, r2, r3, r4, r5)) ∧ Aside0 (kq ≤ k) ∧ Aside0 (Kd.R k64 64 w' w.heap.size (fun _ => True) v5 x5_1) ∧ Aside0 (Kd.R k27 27 w' w.heap.size (fun k_ => some k_ ≠ (v5 : Value).ownBlock) v6 x6_1) ∧ Aside0 (IsS79 w0 w' g x1000_1 x1001_1) ∧ Aside0 (KeepBut w w' g none) ∧ Aside0 (Below w0.heap.size w0 w'))
  case atStart => exact ⟨(([] : List (S64))), (([] : List (S27))), (t191), (t192), H', ⟨Nat.le_refl _⟩, ⟨zN⟩, ⟨zN⟩, ⟨zI79 HI0.out⟩, ⟨zK HK.out⟩, ⟨zC79 HB.out⟩⟩
  case round =>
   clear H'
   (try clear c4); (try clear hz8)
   obtain ⟨x5_1, x6_1, x1000_1, x1001_1, HA, HK1, HO_5, HO_6, HI0, HK, HB⟩ := hrel
   rcases gk with _ | k1
   · exact absurd HA.out (by simp [mem_.l0])
   have H := HA.out
   clear HA
   simp only [mem_.l0] at H
   have HC11 := Aside0.mk H
   clear H
   obtain ⟨HGz12, hgz12⟩ := HI0.out
   have hz12 := zc2 HGz12
   clear HGz12 hgz12
   go_upto_region 8 with (fail)
   go_cut [32] (fun v32 wc => ∃ (kq : Nat) (x32_10 : Bool) (x1000_10 : ByteArray) (x1001_10 : Int), v32 = .bool x32_10 ∧ Aside0 (mem_.j1 kq x5_1 x6_1 x1001_1 x32_10 x1000_10 x1001_10 = some (r1, r2, r3, r4, r5)) ∧ Aside0 (kq ≤ k1) ∧ Aside0 (Kd.R k64 64 wc w.heap.size (fun _ => True) u5 x5_1) ∧ Aside0 (Kd.R k27 27 wc w.heap.size (fun k_ => some k_ ≠ (u5 : Value).ownBlock) u6 x6_1) ∧ Aside0 (IsS79 w0 wc g x1000_10 x1001_10) ∧ Aside0 (KeepBut w wc g none) ∧ Aside0 (Below w0.heap.size w0 wc))
   case first =>
    have H := HC11.out
    clear HC11
    replace H := Option.bind_eq_some_iff.mp H
    obtain ⟨⟨t193, t194, t195⟩, A130, H⟩ := H
    try dsimp only at H
    have A13 := Aside0.mk A130
    clear A130
    by_cases c14 : t193 = 34
    rw [if_pos c14] at H
    have c14b0 := beq_iff_eq.mpr c14
    have c14b1 := bne_eq_false_iff_eq.mpr c14
    clear c14
    (first | rw [c14b0] | (simp only [i64_w, i32_w]; rw [c14b0]) | rw [c14b1] | skip)
    replace H := Option.bind_eq_some_iff.mp H
    obtain ⟨⟨t196, t197, t198⟩, A150, H⟩ := H
    try dsimp only at H
    have A15 := Aside0.mk A150
    clear A150
    have H' := Aside0.mk H
    clear H
    rotate_left
    rw [if_neg c14] at H
    have c14b0 := beq_eq_false_iff_ne.mpr c14
    have c14b1 := bne_iff_ne.mpr c14
    (first | rw [c14b0] | (simp only [i64_w, i32_w]; rw [c14b0]) | rw [c14b1] | skip)
    have H' := Aside0.mk H
    clear H
    rotate_left
    all_goals go_wp2_with (first | ((with_reducible refine gate_callee (f := 56) rfl ?_); refine zGk (some 26) Tryz.func56 (her_.calls g x1000_1 x1001_1 t193 t194 t195 w0 _ (zI79 HI0.out) (zC79 HB.out) A13.out) HK ?_; intro w16 hk; replace HO_5 := zhs79 HI0 HO_5 hk; replace HO_6 := zhs79 HI0 HO_6 hk; clear hk HI0 HB HK; intro HI0 HB HK) | (go_at_call 59; (with_reducible refine (q_.calls k1 g t194 t195 t196 t197 t198 w0 _ ?side1 ?side2 A15.out).mono ?_); (case side1 => exact zI79 HI0.out); (case side2 => exact zC79 HB.out); rintro e w17 ⟨rfl, hi, hb, hk⟩; replace HO_5 := zhs79 HI0 HO_5 hk; replace HO_6 := zhs79 HI0 HO_6 hk; replace HK := Aside0.mk (KeepBut.trans (zK HK.out) hk (.inl rfl)); replace HB := Aside0.mk (hb); replace HI0 := Aside0.mk (hi); clear hb hk hi))
    ·
     go_meet
     case rel => exact ⟨_, (!t196), (t197), (t198), zE, H', ⟨by have := HK1.out; first | omega | exact Nat.le_refl _⟩, ⟨by (with_reducible repeat (first | apply Kd.R_alloc | apply Kd.R_drewN | apply Kd.R_drew)); exact HO_5.out⟩, ⟨by (with_reducible repeat (first | apply Kd.R_alloc | apply Kd.R_drewN | apply Kd.R_drew)); exact HO_6.out⟩, ⟨zI79 HI0.out⟩, ⟨zK HK.out⟩, ⟨zC79 HB.out⟩⟩
    ·
     go_meet
     case rel => exact ⟨_, (true), (t194), (t195), zE, H', ⟨by have := HK1.out; first | omega | exact Nat.le_refl _⟩, ⟨by (with_reducible repeat (first | apply Kd.R_alloc | apply Kd.R_drewN | apply Kd.R_drew)); exact HO_5.out⟩, ⟨by (with_reducible repeat (first | apply Kd.R_alloc | apply Kd.R_drewN | apply Kd.R_drew)); exact HO_6.out⟩, ⟨zI79 HI0.out⟩, ⟨zK HK.out⟩, ⟨zC79 HB.out⟩⟩
   clear HC11
   (try clear c4); (try clear hz12); (try clear hz8)
   obtain ⟨kq, x32_10, x1000_10, x1001_10, rfl, HA, HJ10, HO_5, HO_6, HI0, HK, HB⟩ := hcut
   rcases kq with _ | kj10
   · exact absurd HA.out (by simp [mem_.j1])
   have H := HA.out
   clear HA
   simp only [mem_.j1] at H
   by_cases c19 : x32_10 = true
   ·
    subst c19
    rw [if_pos rfl] at H
    simp only [Option.some.injEq, Prod.mk.injEq] at H
    obtain ⟨rfl, rfl, rfl, rfl, rfl⟩ := H
    go_wp2
    go_ret3
    exact ⟨_, _, zX, zN, zN, zI79 HI0.out, zC79 HB.out, zK HK.out⟩
   replace c19 := Bool.eq_false_iff.mpr c19
   subst c19
   rw [if_neg Bool.false_ne_true] at H
   by_cases c20 : x5_1.length < 8796093022208
   ·
    rw [if_pos c20] at H
    have LMc20 := Aside0.mk c20
    clear c20
    obtain ⟨y199, hy199⟩ : ∃ y_ : List (S64), y_ = (x5_1 ++ [(⟨x1001_1, x1001_10⟩ : S64)]) := ⟨_, rfl⟩
    replace H : ((b_.f kj10 x1000_10 x1001_10).bind fun bt202 => ((t_.f bt202.1 bt202.2 58).bind fun bt204 => (if bt204.1 = true then ((b_.f kj10 bt204.2.1 bt204.2.2).bind fun bt207 => ((v_.f kj10 bt207.1 bt207.2).bind fun bt209 => (if bt209.2.2.2.2.2.1 = true then (if x6_1.length < 1954687338268 then ((some (x6_1 ++ [(⟨bt209.1, bt209.2.1, bt209.2.2.1, bt209.2.2.2.1, bt209.2.2.2.2.1⟩ : S27)] : List (S27))).bind fun y222 => ((b_.f kj10 bt209.2.2.2.2.2.2.1 bt209.2.2.2.2.2.2.2).bind fun bt225 => ((t_.f bt225.1 bt225.2 125).bind fun bt227 => (if bt227.1 = true then (some (y199, y222, true, bt227.2.1, bt227.2.2)) else ((t_.f bt227.2.1 bt227.2.2 44).bind fun bt230 => (if bt230.1 = true then ((b_.f kj10 bt230.2.1 bt230.2.2).bind fun bt233 => (mem_.l0 kj10 y199 y222 bt233.1 bt233.2)) else (some (([] : List (S64)), ([] : List (S27)), false, bt230.2.1, bt230.2.2)))))))) else (none)) else (some (([] : List (S64)), ([] : List (S27)), false, bt209.2.2.2.2.2.2.1, bt209.2.2.2.2.2.2.2))))) else (some (([] : List (S64)), ([] : List (S27)), false, bt204.2.1, bt204.2.2))))) = some (r1, r2, r3, r4, r5) := by first | (rw [hy199]; with_reducible exact H) | (have H2_ := (Option.bind_some _ _).symm.trans H; rw [hy199]; with_reducible exact H2_) | (have H2_ := (Option.bind_some _ _).symm.trans H; with_reducible exact H2_) | with_reducible exact H | (rw [hy199]; exact H) | exact H
    have Ny199 := Aside0.mk hy199
    clear hy199
    replace H := Option.bind_eq_some_iff.mp H
    obtain ⟨⟨t202, t203⟩, A210, H⟩ := H
    try dsimp only at H
    have A21 := Aside0.mk A210
    clear A210
    replace H := Option.bind_eq_some_iff.mp H
    obtain ⟨⟨t204, t205, t206⟩, A220, H⟩ := H
    try dsimp only at H
    have A22 := Aside0.mk A220
    clear A220
    by_cases c23 : t204 = true
    subst c23
    rw [if_pos rfl] at H
    replace H := Option.bind_eq_some_iff.mp H
    obtain ⟨⟨t207, t208⟩, A240, H⟩ := H
    try dsimp only at H
    have A24 := Aside0.mk A240
    clear A240
    replace H := Option.bind_eq_some_iff.mp H
    obtain ⟨⟨t209, t210, t211, t212, t215, t218, t219, t220⟩, A250, H⟩ := H
    try dsimp only at H
    have A25 := Aside0.mk A250
    clear A250
    by_cases c26 : t218 = true
    subst c26
    rw [if_pos rfl] at H
    by_cases c27 : x6_1.length < 1954687338268
    rw [if_pos c27] at H
    have LMc27 := Aside0.mk c27
    clear c27
    obtain ⟨y222, hy222⟩ : ∃ y_ : List (S27), y_ = (x6_1 ++ [(⟨t209, t210, t211, t212, t215⟩ : S27)]) := ⟨_, rfl⟩
    replace H : ((b_.f kj10 t219 t220).bind fun bt225 => ((t_.f bt225.1 bt225.2 125).bind fun bt227 => (if bt227.1 = true then (some (y199, y222, true, bt227.2.1, bt227.2.2)) else ((t_.f bt227.2.1 bt227.2.2 44).bind fun bt230 => (if bt230.1 = true then ((b_.f kj10 bt230.2.1 bt230.2.2).bind fun bt233 => (mem_.l0 kj10 y199 y222 bt233.1 bt233.2)) else (some (([] : List (S64)), ([] : List (S27)), false, bt230.2.1, bt230.2.2))))))) = some (r1, r2, r3, r4, r5) := by first | (rw [hy222]; with_reducible exact H) | (have H2_ := (Option.bind_some _ _).symm.trans H; rw [hy222]; with_reducible exact H2_) | (have H2_ := (Option.bind_some _ _).symm.trans H; with_reducible exact H2_) | with_reducible exact H | (rw [hy222]; exact H) | exact H
    have Ny222 := Aside0.mk hy222
    clear hy222
    replace H := Option.bind_eq_some_iff.mp H
    obtain ⟨⟨t225, t226⟩, A280, H⟩ := H
    try dsimp only at H
    have A28 := Aside0.mk A280
    clear A280
    replace H := Option.bind_eq_some_iff.mp H
    obtain ⟨⟨t227, t228, t229⟩, A290, H⟩ := H
    try dsimp only at H
    have A29 := Aside0.mk A290
    clear A290
    by_cases c30 : t227 = true
    subst c30
    rw [if_pos rfl] at H
    simp only [Option.some.injEq, Prod.mk.injEq] at H
    obtain ⟨rfl, rfl, rfl, rfl, rfl⟩ := H
    obtain ⟨HGz31, hgz31⟩ := HI0.out
    have hz31 := zc2 HGz31
    clear HGz31 hgz31
    rotate_left
    replace c30 := Bool.eq_false_iff.mpr c30
    subst c30
    rw [if_neg Bool.false_ne_true] at H
    replace H := Option.bind_eq_some_iff.mp H
    obtain ⟨⟨t230, t231, t232⟩, A470, H⟩ := H
    try dsimp only at H
    have A47 := Aside0.mk A470
    clear A470
    by_cases c48 : t230 = true
    subst c48
    rw [if_pos rfl] at H
    replace H := Option.bind_eq_some_iff.mp H
    obtain ⟨⟨t233, t234⟩, A490, H⟩ := H
    try dsimp only at H
    have A49 := Aside0.mk A490
    clear A490
    have H' := Aside0.mk H
    clear H
    obtain ⟨HGz50, hgz50⟩ := HI0.out
    have hz50 := zc2 HGz50
    clear HGz50 hgz50
    rotate_left
    replace c48 := Bool.eq_false_iff.mpr c48
    subst c48
    rw [if_neg Bool.false_ne_true] at H
    simp only [Option.some.injEq, Prod.mk.injEq] at H
    obtain ⟨rfl, rfl, rfl, rfl, rfl⟩ := H
    obtain ⟨HGz68, hgz68⟩ := HI0.out
    have hz68 := zc2 HGz68
    clear HGz68 hgz68
    rotate_left
    ·
     rw [if_neg c27] at H
     exact absurd H (by simp)
    replace c26 := Bool.eq_false_iff.mpr c26
    subst c26
    rw [if_neg Bool.false_ne_true] at H
    simp only [Option.some.injEq, Prod.mk.injEq] at H
    obtain ⟨rfl, rfl, rfl, rfl, rfl⟩ := H
    obtain ⟨HGz85, hgz85⟩ := HI0.out
    have hz85 := zc2 HGz85
    clear HGz85 hgz85
    rotate_left
    replace c23 := Bool.eq_false_iff.mpr c23
    subst c23
    rw [if_neg Bool.false_ne_true] at H
    simp only [Option.some.injEq, Prod.mk.injEq] at H
    obtain ⟨rfl, rfl, rfl, rfl, rfl⟩ := H
    obtain ⟨HGz96, hgz96⟩ := HI0.out
    have hz96 := zc2 HGz96
    clear HGz96 hgz96
    rotate_left
    all_goals go_wp2_with (first | ((with_reducible refine gate_builtin (b := .append) (xs := #[.tmp 33, .tmp 40]) rfl ?_); at_builtin; refine Kd.R_append k64 w.heap.size rfl (.tmp 33) (.tmp 40) 24 64 (.agg #[(.int .i64 0), (.int .i64 0)]) 16 rfl Tryz.underlying24 info64 rfl (by decide) (by omega) u5 x5_1 (⟨x1001_1, x1001_10⟩ : S64) [.int .i64 x1001_1, .int .i64 x1001_10] (fun _ => True) (fun _ => False) rfl rfl ?aP (fun _ hk => hk.elim) ?aF ?aO (Below.refl _ _) ?aS ?aL ?_; (case aP => exact k64_mkM _ _ _ (⟨x1001_1, x1001_10⟩ : S64)); (case aF => exact (fun _ _ => trivial)); (case aO => exact (zR HO_5.out)); (case aS => exact (keep_size (w := w) (g := g) (row := none) (zK HK.out))); (case aL => have := LMc20.out; omega); intro v200 w32 ho hb hg hat; rw [← Ny199.out] at ho; replace HO_6 := Aside0.mk (Kd.R_after (ok := (fun _ => True)) (zR (Kd.R_mono HO_6.out (fun _ hk => ⟨trivial, hk⟩))) hg hat); replace HI0 := Aside0.mk (IsS79.grown (zI79 HI0.out) hg (IsS79.own_ne HI0.out HO_5.out (by decide))); replace HB := Aside0.mk (below_weaken (zC79 HB.out) HL.out hb); replace HK := Aside0.mk (KeepBut.trans (zK HK.out) (KeepBut.of_grown hg g) (Kd.R_base2 HO_5.out)); have HO201 := Aside0.mk (ho); clear HO_5; clear ho hb hg hat) | ((with_reducible refine gate_callee (f := 39) rfl ?_); refine zGk (some 43) Tryz.func39 (b_.calls kj10 g x1000_10 x1001_10 t202 t203 w0 _ (zI79 HI0.out) (zC79 HB.out) A21.out) HK ?_; intro w33 hk; replace HO_6 := zhs79 HI0 HO_6 hk; replace HO201 := zhs79 HI0 HO201 hk; clear hk HI0 HB HK; intro HI0 HB HK) | ((with_reducible refine gate_callee (f := 76) rfl ?_); refine zGk (some 45) Tryz.func76 (t_.calls g t202 t203 58 true t205 t206 w0 _ (zI79 HI0.out) (zC79 HB.out) A22.out) HK ?_; intro w34 hk; replace HO_6 := zhs79 HI0 HO_6 hk; replace HO201 := zhs79 HI0 HO201 hk; clear hk HI0 HB HK; intro HI0 HB HK) | ((with_reducible refine gate_callee (f := 39) rfl ?_); refine zGk (some 48) Tryz.func39 (b_.calls kj10 g t205 t206 t207 t208 w0 _ (zI79 HI0.out) (zC79 HB.out) A24.out) HK ?_; intro w35 hk; replace HO_6 := zhs79 HI0 HO_6 hk; replace HO201 := zhs79 HI0 HO201 hk; clear hk HI0 HB HK; intro HI0 HB HK) | ((with_reducible refine gate_callee (f := 40) rfl ?_); refine goesL_ (some 51) rfl rfl Tryz.func40 (by kernel_rfl) rfl #[.pointer (some ⟨g, 0, none⟩)] rfl zM ?_; (with_reducible refine (ih_spec_reader_value kj10 (by have := HK1.out; have := HJ10.out; omega) g t207 t208 t209 t210 t211 t212 t215 true t219 t220 w0 _ ?side1 ?side2 A25.out).mono ?_); (case side1 => exact zI79 HI0.out); (case side2 => exact zC79 HB.out); rintro e w36 ⟨v213, v216, rfl, ho0, ho1, hi, hb, hk⟩; refine ⟨_, rfl, ?_⟩; have HO214 := Aside0.mk (Kd.R_lower (Kd.R_new' ho0 (Kd.R_lt (zR HO201.out))) (keep_size (w := w) (g := g) (row := none) (zK HK.out))); have HO217 := Aside0.mk (Kd.R_lower (Kd.R_new' (Kd.R_new' ho1 (Kd.R_lt (zR HO_6.out))) (Kd.R_lt (zR HO201.out))) (keep_size (w := w) (g := g) (row := none) (zK HK.out))); replace HO_6 := Aside0.mk (Kd.R_mono (Kd.R_told (Kd.R_told (Kd.R_oldK (IsS79.apart (show IsS79 w0 _ g t207 t208 from zI79 HI0.out) (zR HO_6.out) (by decide)) hk) (Kd.R_base ho0)) (Kd.R_base ho1)) (fun _ h_ => h_.1)); replace HO201 := Aside0.mk (Kd.R_mono (Kd.R_told (Kd.R_oldK (IsS79.apart (show IsS79 w0 _ g t207 t208 from zI79 HI0.out) (zR HO201.out) (by decide)) hk) (Kd.R_base ho0)) (fun _ h_ => h_.1)); replace HK := Aside0.mk (KeepBut.trans (zK HK.out) hk (.inl rfl)); replace HB := Aside0.mk (hb); replace HI0 := Aside0.mk (hi); clear hb hk hi; (try clear ho0); (try clear ho1)) | ((with_reducible refine gate_dst (N := 8) rfl ?_); refine zbo (N := 8) (cs := #[.int .i64 0, .int .i64 0, .int .i64 0, .slice none 0 0, .slice none 0 0]) (t := 27) ?_; intro gb221 hg w37 hbox hb; replace HO_6 := Aside0.mk (Kd.R_below (Kd.R_elderB (zR HO_6.out) gb221 (Nat.le_of_eq hg.symm)) hb); replace HO201 := zrb HO201 hb; replace HO214 := zrb HO214 hb; replace HO217 := Aside0.mk (Kd.R_below (Kd.R_elderB (zR HO217.out) gb221 (Nat.le_of_eq hg.symm)) hb); replace HB := Aside0.mk (below_step (zC79 HB.out) hb); have BK221 := Aside0.mk (hbox); have GW221 := Aside0.mk ((by rw [hg]; exact (keep_size (w := w) (g := g) (row := none) (zK HK.out)) : w.heap.size ≤ gb221)); have GE221 := Aside0.mk ((Nat.le_trans HW0.out (by rw [hg]; exact (keep_size (w := w) (g := g) (row := none) (zK HK.out)) : w.heap.size ≤ gb221) : w0.heap.size ≤ gb221)); replace HK := Aside0.mk (KeepBut.trans (zK HK.out) (KeepBut.of_below hb g none) (.inl rfl)); have NB0_221 := Aside0.mk ((by rw [hg]; exact Nat.ne_of_lt (IsS79.lt (show IsS79 w0 _ g t219 t220 from zI79 HI0.out)) : g ≠ gb221)); have NB221_0 := Aside0.mk ((by rw [hg]; exact Nat.ne_of_gt (IsS79.lt (show IsS79 w0 _ g t219 t220 from zI79 HI0.out)) : gb221 ≠ g)); replace HI0 := Aside0.mk (IsS79.below (zI79 HI0.out) hb); clear hb hbox hg; have hnb38 := NB221_0.out; have hnc38 := NB0_221.out; have hz39 := zc5 BK221.out; obtain ⟨Ao40, co40, eo40⟩ := Kd.R_slice HO214.out; subst eo40; obtain ⟨Ao41, co41, eo41⟩ := Kd.R_slice HO217.out; subst eo41) | ((with_reducible refine gate_store (t := 27) (p := 8) rfl ?_); refine store_event (t := 27) (p := 8) (v := ?vo_w42) (w1 := (((((w37.setCell ⟨gb221, 0, none⟩ (.int .i64 t209)).setCell ⟨gb221, 1, none⟩ (.int .i64 t210)).setCell ⟨gb221, 2, none⟩ (.int .i64 t211)).setCell ⟨gb221, 3, none⟩ (.slice Ao40 t212.length co40)).setCell ⟨gb221, 4, none⟩ (.slice Ao41 t215.length co41))) ?hg ?ho ?hn ?hr ?_; (case ho => rfl); (case hg => rfl); (case hn => rfl); (case hr => first | (go_simp; done) | (go_simp; rfl)); intro w42 hw; replace HO_6 : Aside0 (Kd.R k27 27 w42 w.heap.size (fun k_ => some k_ ≠ (v200 : Value).ownBlock ∧ some k_ ≠ (.slice Ao40 t212.length co40 : Value).ownBlock ∧ some k_ ≠ (.slice Ao41 t215.length co41 : Value).ownBlock ∧ k_ ≠ gb221) u6 x6_1) := ⟨(by rw [hw]; exact (zR (Kd.R_mono (zFR (Kd.R_mono HO_6.out (fun k_ hk => (⟨hk, hk.2⟩ : _ ∧ k_ ≠ gb221)))) (fun _ hk => ⟨hk.1.1.1.1.2, ⟨hk.1.1.1.2, ⟨hk.1.1.2, hk.1.2⟩⟩⟩))))⟩; replace HO201 : Aside0 (Kd.R k64 64 w42 w.heap.size (fun k_ => some k_ ≠ (.slice Ao40 t212.length co40 : Value).ownBlock) v200 y199) := ⟨(by rw [hw]; exact (zR (Kd.R_mono (zFR (Kd.R_types HO201.out BK221.out (by decide))) (fun _ hk => hk.1.2))))⟩; replace HO214 : Aside0 (Kd.R k64 64 w42 w.heap.size (fun k_ => some k_ ≠ (v200 : Value).ownBlock) (.slice Ao40 t212.length co40) t212) := ⟨(by rw [hw]; exact (zR (Kd.R_mono (zFR (Kd.R_types HO214.out BK221.out (by decide))) (fun _ hk => hk.1.2))))⟩; replace HO217 : Aside0 (Kd.R k27 27 w42 w.heap.size (fun k_ => some k_ ≠ (u6 : Value).ownBlock ∧ some k_ ≠ (v200 : Value).ownBlock ∧ some k_ ≠ (.slice Ao40 t212.length co40 : Value).ownBlock ∧ k_ ≠ gb221) (.slice Ao41 t215.length co41) t215) := ⟨(by rw [hw]; exact (zR (Kd.R_mono (zFR (Kd.R_mono HO217.out (fun k_ hk => (⟨hk, hk.2⟩ : _ ∧ k_ ≠ gb221)))) (fun _ hk => ⟨hk.1.1.1.2, ⟨hk.1.1.2, ⟨hk.1.1.1.1, hk.1.2⟩⟩⟩))))⟩; replace BK221 : Aside0 (w42.heap[gb221]? = some (.cells #[.int .i64 t209, .int .i64 t210, .int .i64 t211, .slice Ao40 t212.length co40, .slice Ao41 t215.length co41] 27 (0, 0))) := ⟨(by rw [hw]; exact (zbp BK221))⟩; replace HI0 : Aside0 (IsS79 w0 w42 g t219 t220) := ⟨(by rw [hw]; exact (zI79 HI0.out))⟩; replace HK : Aside0 (KeepBut w w42 g none) := ⟨(by rw [hw]; exact (zK HK.out))⟩; replace HB : Aside0 (Below w0.heap.size w0 w42) := ⟨(by rw [hw]; exact (zC79 HB.out))⟩; clear hw; have hz43 := zc5 BK221.out) | ((with_reducible refine gate_builtin (b := .append) (xs := #[.tmp 56, .tmp 58]) rfl ?_); at_builtin; refine Kd.R_append k27 w.heap.size rfl (.tmp 56) (.tmp 58) 25 27 (.agg #[(.int .i64 0), (.int .i64 0), (.int .i64 0), (.slice none 0 0), (.slice none 0 0)]) 72 rfl Tryz.underlying25 info27 rfl (by decide) (by omega) u6 x6_1 (⟨t209, t210, t211, t212, t215⟩ : S27) [.int .i64 t209, .int .i64 t210, .int .i64 t211, .slice Ao40 t212.length co40, .slice Ao41 t215.length co41] (fun k_ => some k_ ≠ (v200 : Value).ownBlock ∧ k_ ≠ gb221) (fun k_ => ((fun k_ => some k_ ≠ (v200 : Value).ownBlock ∧ k_ ≠ gb221)) k_ ∧ some k_ ≠ (u6 : Value).ownBlock) rfl rfl ?aP (fun _ hk => hk) ?aF ?aO (Below.refl _ _) ?aS ?aL ?_; (case aP => exact k27_mkM _ _ _ (⟨t209, t210, t211, t212, t215⟩ : S27) (Kd.R_mono (Kd.R_types (Kd.R_apart' (HO214.out) (Kd.R_typed HO_6.out) (by decide)) BK221.out (by decide)) (fun k_ hk => ⟨⟨hk.1.1, hk.2⟩, hk.1.2⟩)) (Kd.R_mono (HO217.out) (fun k_ hk => ⟨⟨hk.2.1, hk.2.2.2⟩, hk.1⟩))); (case aF => exact (fun k_ hk => ⟨Kd.fresh' (Kd.R_lt (zR HO201.out)) k_ hk, Kd.freshB (g := gb221) (o := .cells #[.int .i64 t209, .int .i64 t210, .int .i64 t211, .slice Ao40 t212.length co40, .slice Ao41 t215.length co41] 27 (0, 0)) (by (repeat refine zb ?_); exact BK221.out) k_ hk⟩)); (case aO => exact (zR (Kd.R_mono HO_6.out (fun _ hk => ⟨hk.1, hk.2.2.2⟩)))); (case aS => exact (keep_size (w := w) (g := g) (row := none) (zK HK.out))); (case aL => have := LMc27.out; omega); intro v223 w44 ho hb hg hat; rw [← Ny222.out] at ho; replace HI0 := Aside0.mk (IsS79.grown (zI79 HI0.out) hg (IsS79.own_ne HI0.out HO_6.out (by decide))); replace HO201 := Aside0.mk (Kd.R_over' (zR HO201.out) (Kd.R_typed (zR HO_6.out)) (by decide) hg); replace BK221 := Aside0.mk (blk_grown (g := gb221) (o := .cells #[.int .i64 t209, .int .i64 t210, .int .i64 t211, .slice Ao40 t212.length co40, .slice Ao41 t215.length co41] 27 (0, 0)) (by (repeat refine zb ?_); exact BK221.out) hg (Kd.R_away HO_6.out (fun _ hk => hk.2.2.2))); replace HB := Aside0.mk (below_weaken (zC79 HB.out) HL.out hb); replace HK := Aside0.mk (KeepBut.trans (zK HK.out) (KeepBut.of_grown hg g) (Kd.R_base2 HO_6.out)); have HO224 := Aside0.mk (ho); clear HO_6 HO214 HO217; clear ho hb hg hat) | ((with_reducible refine gate_callee (f := 39) rfl ?_); refine zGk (some 61) Tryz.func39 (b_.calls kj10 g t219 t220 t225 t226 w0 _ (zI79 HI0.out) (zC79 HB.out) A28.out) HK ?_; intro w45 hk; replace HO201 := zhs79 HI0 HO201 hk; replace BK221 := zkb hk BK221 NB221_0; replace HO224 := zhs79 HI0 HO224 hk; clear hk HI0 HB HK; intro HI0 HB HK) | ((with_reducible refine gate_callee (f := 76) rfl ?_); refine zGk (some 63) Tryz.func76 (t_.calls g t225 t226 125 true t228 t229 w0 _ (zI79 HI0.out) (zC79 HB.out) A29.out) HK ?_; intro w46 hk; replace HO201 := zhs79 HI0 HO201 hk; replace BK221 := zkb hk BK221 NB221_0; replace HO224 := zhs79 HI0 HO224 hk; clear hk HI0 HB HK; intro HI0 HB HK) | ((with_reducible refine gate_store (t := 27) (p := 8) rfl ?_); refine store_event (t := 27) (p := 8) (v := ?vo_w61) (w1 := (((((w37.setCell ⟨gb221, 0, none⟩ (.int .i64 t209)).setCell ⟨gb221, 1, none⟩ (.int .i64 t210)).setCell ⟨gb221, 2, none⟩ (.int .i64 t211)).setCell ⟨gb221, 3, none⟩ (.slice Ao40 t212.length co40)).setCell ⟨gb221, 4, none⟩ (.slice Ao41 t215.length co41))) ?hg ?ho ?hn ?hr ?_; (case ho => rfl); (case hg => rfl); (case hn => rfl); (case hr => first | (go_simp; done) | (go_simp; rfl)); intro w61 hw; replace HO_6 : Aside0 (Kd.R k27 27 w61 w.heap.size (fun k_ => some k_ ≠ (v200 : Value).ownBlock ∧ some k_ ≠ (.slice Ao40 t212.length co40 : Value).ownBlock ∧ some k_ ≠ (.slice Ao41 t215.length co41 : Value).ownBlock ∧ k_ ≠ gb221) u6 x6_1) := ⟨(by rw [hw]; exact (zR (Kd.R_mono (zFR (Kd.R_mono HO_6.out (fun k_ hk => (⟨hk, hk.2⟩ : _ ∧ k_ ≠ gb221)))) (fun _ hk => ⟨hk.1.1.1.1.2, ⟨hk.1.1.1.2, ⟨hk.1.1.2, hk.1.2⟩⟩⟩))))⟩; replace HO201 : Aside0 (Kd.R k64 64 w61 w.heap.size (fun k_ => some k_ ≠ (.slice Ao40 t212.length co40 : Value).ownBlock) v200 y199) := ⟨(by rw [hw]; exact (zR (Kd.R_mono (zFR (Kd.R_types HO201.out BK221.out (by decide))) (fun _ hk => hk.1.2))))⟩; replace HO214 : Aside0 (Kd.R k64 64 w61 w.heap.size (fun k_ => some k_ ≠ (v200 : Value).ownBlock) (.slice Ao40 t212.length co40) t212) := ⟨(by rw [hw]; exact (zR (Kd.R_mono (zFR (Kd.R_types HO214.out BK221.out (by decide))) (fun _ hk => hk.1.2))))⟩; replace HO217 : Aside0 (Kd.R k27 27 w61 w.heap.size (fun k_ => some k_ ≠ (u6 : Value).ownBlock ∧ some k_ ≠ (v200 : Value).ownBlock ∧ some k_ ≠ (.slice Ao40 t212.length co40 : Value).ownBlock ∧ k_ ≠ gb221) (.slice Ao41 t215.length co41) t215) := ⟨(by rw [hw]; exact (zR (Kd.R_mono (zFR (Kd.R_mono HO217.out (fun k_ hk => (⟨hk, hk.2⟩ : _ ∧ k_ ≠ gb221)))) (fun _ hk => ⟨hk.1.1.1.2, ⟨hk.1.1.2, ⟨hk.1.1.1.1, hk.1.2⟩⟩⟩))))⟩; replace BK221 : Aside0 (w61.heap[gb221]? = some (.cells #[.int .i64 t209, .int .i64 t210, .int .i64 t211, .slice Ao40 t212.length co40, .slice Ao41 t215.length co41] 27 (0, 0))) := ⟨(by rw [hw]; exact (zbp BK221))⟩; replace HI0 : Aside0 (IsS79 w0 w61 g t219 t220) := ⟨(by rw [hw]; exact (zI79 HI0.out))⟩; replace HK : Aside0 (KeepBut w w61 g none) := ⟨(by rw [hw]; exact (zK HK.out))⟩; replace HB : Aside0 (Below w0.heap.size w0 w61) := ⟨(by rw [hw]; exact (zC79 HB.out))⟩; clear hw; have hz62 := zc5 BK221.out) | ((with_reducible refine gate_callee (f := 76) rfl ?_); refine zGk (some 63) Tryz.func76 (t_.calls g t225 t226 125 false t228 t229 w0 _ (zI79 HI0.out) (zC79 HB.out) A29.out) HK ?_; intro w65 hk; replace HO201 := zhs79 HI0 HO201 hk; replace BK221 := zkb hk BK221 NB221_0; replace HO224 := zhs79 HI0 HO224 hk; clear hk HI0 HB HK; intro HI0 HB HK) | ((with_reducible refine gate_callee (f := 76) rfl ?_); refine zGk (some 67) Tryz.func76 (t_.calls g t228 t229 44 true t231 t232 w0 _ (zI79 HI0.out) (zC79 HB.out) A47.out) HK ?_; intro w66 hk; replace HO201 := zhs79 HI0 HO201 hk; replace BK221 := zkb hk BK221 NB221_0; replace HO224 := zhs79 HI0 HO224 hk; clear hk HI0 HB HK; intro HI0 HB HK) | ((with_reducible refine gate_callee (f := 39) rfl ?_); refine zGk (some 70) Tryz.func39 (b_.calls kj10 g t231 t232 t233 t234 w0 _ (zI79 HI0.out) (zC79 HB.out) A49.out) HK ?_; intro w67 hk; replace HO201 := zhs79 HI0 HO201 hk; replace BK221 := zkb hk BK221 NB221_0; replace HO224 := zhs79 HI0 HO224 hk; clear hk HI0 HB HK; intro HI0 HB HK) | ((with_reducible refine gate_store (t := 27) (p := 8) rfl ?_); refine store_event (t := 27) (p := 8) (v := ?vo_w79) (w1 := (((((w37.setCell ⟨gb221, 0, none⟩ (.int .i64 t209)).setCell ⟨gb221, 1, none⟩ (.int .i64 t210)).setCell ⟨gb221, 2, none⟩ (.int .i64 t211)).setCell ⟨gb221, 3, none⟩ (.slice Ao40 t212.length co40)).setCell ⟨gb221, 4, none⟩ (.slice Ao41 t215.length co41))) ?hg ?ho ?hn ?hr ?_; (case ho => rfl); (case hg => rfl); (case hn => rfl); (case hr => first | (go_simp; done) | (go_simp; rfl)); intro w79 hw; replace HO_6 : Aside0 (Kd.R k27 27 w79 w.heap.size (fun k_ => some k_ ≠ (v200 : Value).ownBlock ∧ some k_ ≠ (.slice Ao40 t212.length co40 : Value).ownBlock ∧ some k_ ≠ (.slice Ao41 t215.length co41 : Value).ownBlock ∧ k_ ≠ gb221) u6 x6_1) := ⟨(by rw [hw]; exact (zR (Kd.R_mono (zFR (Kd.R_mono HO_6.out (fun k_ hk => (⟨hk, hk.2⟩ : _ ∧ k_ ≠ gb221)))) (fun _ hk => ⟨hk.1.1.1.1.2, ⟨hk.1.1.1.2, ⟨hk.1.1.2, hk.1.2⟩⟩⟩))))⟩; replace HO201 : Aside0 (Kd.R k64 64 w79 w.heap.size (fun k_ => some k_ ≠ (.slice Ao40 t212.length co40 : Value).ownBlock) v200 y199) := ⟨(by rw [hw]; exact (zR (Kd.R_mono (zFR (Kd.R_types HO201.out BK221.out (by decide))) (fun _ hk => hk.1.2))))⟩; replace HO214 : Aside0 (Kd.R k64 64 w79 w.heap.size (fun k_ => some k_ ≠ (v200 : Value).ownBlock) (.slice Ao40 t212.length co40) t212) := ⟨(by rw [hw]; exact (zR (Kd.R_mono (zFR (Kd.R_types HO214.out BK221.out (by decide))) (fun _ hk => hk.1.2))))⟩; replace HO217 : Aside0 (Kd.R k27 27 w79 w.heap.size (fun k_ => some k_ ≠ (u6 : Value).ownBlock ∧ some k_ ≠ (v200 : Value).ownBlock ∧ some k_ ≠ (.slice Ao40 t212.length co40 : Value).ownBlock ∧ k_ ≠ gb221) (.slice Ao41 t215.length co41) t215) := ⟨(by rw [hw]; exact (zR (Kd.R_mono (zFR (Kd.R_mono HO217.out (fun k_ hk => (⟨hk, hk.2⟩ : _ ∧ k_ ≠ gb221)))) (fun _ hk => ⟨hk.1.1.1.2, ⟨hk.1.1.2, ⟨hk.1.1.1.1, hk.1.2⟩⟩⟩))))⟩; replace BK221 : Aside0 (w79.heap[gb221]? = some (.cells #[.int .i64 t209, .int .i64 t210, .int .i64 t211, .slice Ao40 t212.length co40, .slice Ao41 t215.length co41] 27 (0, 0))) := ⟨(by rw [hw]; exact (zbp BK221))⟩; replace HI0 : Aside0 (IsS79 w0 w79 g t219 t220) := ⟨(by rw [hw]; exact (zI79 HI0.out))⟩; replace HK : Aside0 (KeepBut w w79 g none) := ⟨(by rw [hw]; exact (zK HK.out))⟩; replace HB : Aside0 (Below w0.heap.size w0 w79) := ⟨(by rw [hw]; exact (zC79 HB.out))⟩; clear hw; have hz80 := zc5 BK221.out) | ((with_reducible refine gate_callee (f := 76) rfl ?_); refine zGk (some 67) Tryz.func76 (t_.calls g t228 t229 44 false t231 t232 w0 _ (zI79 HI0.out) (zC79 HB.out) A47.out) HK ?_; intro w84 hk; replace HO201 := zhs79 HI0 HO201 hk; replace BK221 := zkb hk BK221 NB221_0; replace HO224 := zhs79 HI0 HO224 hk; clear hk HI0 HB HK; intro HI0 HB HK) | ((with_reducible refine gate_callee (f := 40) rfl ?_); refine goesL_ (some 51) rfl rfl Tryz.func40 (by kernel_rfl) rfl #[.pointer (some ⟨g, 0, none⟩)] rfl zM ?_; (with_reducible refine (ih_spec_reader_value kj10 (by have := HK1.out; have := HJ10.out; omega) g t207 t208 t209 t210 t211 t212 t215 false t219 t220 w0 _ ?side1 ?side2 A25.out).mono ?_); (case side1 => exact zI79 HI0.out); (case side2 => exact zC79 HB.out); rintro e w90 ⟨v213, v216, rfl, ho0, ho1, hi, hb, hk⟩; refine ⟨_, rfl, ?_⟩; have HO214 := Aside0.mk (Kd.R_lower (Kd.R_new' ho0 (Kd.R_lt (zR HO201.out))) (keep_size (w := w) (g := g) (row := none) (zK HK.out))); have HO217 := Aside0.mk (Kd.R_lower (Kd.R_new' (Kd.R_new' ho1 (Kd.R_lt (zR HO_6.out))) (Kd.R_lt (zR HO201.out))) (keep_size (w := w) (g := g) (row := none) (zK HK.out))); replace HO_6 := Aside0.mk (Kd.R_mono (Kd.R_told (Kd.R_told (Kd.R_oldK (IsS79.apart (show IsS79 w0 _ g t207 t208 from zI79 HI0.out) (zR HO_6.out) (by decide)) hk) (Kd.R_base ho0)) (Kd.R_base ho1)) (fun _ h_ => h_.1)); replace HO201 := Aside0.mk (Kd.R_mono (Kd.R_told (Kd.R_oldK (IsS79.apart (show IsS79 w0 _ g t207 t208 from zI79 HI0.out) (zR HO201.out) (by decide)) hk) (Kd.R_base ho0)) (fun _ h_ => h_.1)); replace HK := Aside0.mk (KeepBut.trans (zK HK.out) hk (.inl rfl)); replace HB := Aside0.mk (hb); replace HI0 := Aside0.mk (hi); clear hb hk hi; (try clear ho0); (try clear ho1)) | ((with_reducible refine gate_callee (f := 76) rfl ?_); refine zGk (some 45) Tryz.func76 (t_.calls g t202 t203 58 false t205 t206 w0 _ (zI79 HI0.out) (zC79 HB.out) A22.out) HK ?_; intro w99 hk; replace HO_6 := zhs79 HI0 HO_6 hk; replace HO201 := zhs79 HI0 HO201 hk; clear hk HI0 HB HK; intro HI0 HB HK))
    ·
     go_ret3
     exact ⟨_, _, zX, by (with_reducible repeat (first | apply Kd.R_alloc | apply Kd.R_drewN | apply Kd.R_drew)); exact Kd.R_mono HO201.out (fun _ hk => trivial), by (with_reducible repeat (first | apply Kd.R_alloc | apply Kd.R_drewN | apply Kd.R_drew)); exact Kd.R_mono HO224.out (fun _ hk => hk.1), zI79 HI0.out, zC79 HB.out, zK HK.out⟩
    ·
     go_roundg kj10
     case measure => have := HK1.out; have := HJ10.out; omega
     case rel => exact ⟨(y199), (y222), (t233), (t234), H', ⟨by have := HK1.out; have := HJ10.out; omega⟩, ⟨by (with_reducible repeat (first | apply Kd.R_alloc | apply Kd.R_drewN | apply Kd.R_drew)); exact Kd.R_mono HO201.out (fun _ hk => trivial)⟩, ⟨by (with_reducible repeat (first | apply Kd.R_alloc | apply Kd.R_drewN | apply Kd.R_drew)); exact Kd.R_mono HO224.out (fun _ hk => hk.1)⟩, ⟨zI79 HI0.out⟩, ⟨zK HK.out⟩, ⟨zC79 HB.out⟩⟩
    ·
     go_ret3
     exact ⟨_, _, zX, zN, zN, zI79 HI0.out, zC79 HB.out, zK HK.out⟩
    ·
     go_ret3
     exact ⟨_, _, zX, zN, zN, zI79 HI0.out, zC79 HB.out, zK HK.out⟩
    ·
     go_ret3
     exact ⟨_, _, zX, zN, zN, zI79 HI0.out, zC79 HB.out, zK HK.out⟩
   rw [if_neg c20] at H
   exact absurd H (by simp)
set_option maxHeartbeats 8000000 in
set_option maxRecDepth 100000 in
theorem ele_.calls_ (k : Nat) (ih_spec_reader_value : ∀ m_, m_ < k → v_.CallsP m_) (ih_spec_reader_members : ∀ m_, m_ < k → mem_.CallsP m_) (ih_spec_reader_elements : ∀ m_, m_ < k → ele_.CallsP m_) : ele_.CallsP k := by
 intro g s0_0 s0_1 r1 r2 r3 r4 w0 w hI hB h
 cases k with
  | zero => exact absurd h (by simp [ele_.f])
  | succ k =>
 simp only [ele_.f] at h
 have hu27 := Tryz.underlying27
 have HI0 := Aside0.mk hI
 have HK := Aside0.mk (KeepBut.refl w g none)
 have HL := Aside0.mk hB.size
 clear hI
 have HW0 := Aside0.mk hB.size
 have HB := Aside0.mk hB
 clear hB
 have H : ((b_.f k s0_0 (wrap64 (s0_1 + 1))).bind fun bt235 => ((t_.f bt235.1 bt235.2 93).bind fun bt237 => (if bt237.1 = true then (some (([] : List (S27)), true, bt237.2.1, bt237.2.2)) else (ele_.l0 k ([] : List (S27)) bt237.2.1 bt237.2.2)))) = some (r1, r2, r3, r4) := h
 clear h
 replace H := Option.bind_eq_some_iff.mp H
 obtain ⟨⟨t235, t236⟩, A20, H⟩ := H
 try dsimp only at H
 have A2 := Aside0.mk A20
 clear A20
 replace H := Option.bind_eq_some_iff.mp H
 obtain ⟨⟨t237, t238, t239⟩, A30, H⟩ := H
 try dsimp only at H
 have A3 := Aside0.mk A30
 clear A30
 by_cases c4 : t237 = true
 subst c4
 rw [if_pos rfl] at H
 simp only [Option.some.injEq, Prod.mk.injEq] at H
 obtain ⟨rfl, rfl, rfl, rfl⟩ := H
 obtain ⟨HGz5, hgz5⟩ := HI0.out
 have hz5 := zc2 HGz5
 clear HGz5 hgz5
 go_enter Tryz.func58, Tryz.ntmps58
 rotate_left
 replace c4 := Bool.eq_false_iff.mpr c4
 subst c4
 rw [if_neg Bool.false_ne_true] at H
 have H' := Aside0.mk H
 clear H
 obtain ⟨HGz8, hgz8⟩ := HI0.out
 have hz8 := zc2 HGz8
 clear HGz8 hgz8
 go_enter Tryz.func58, Tryz.ntmps58
 rotate_left
 all_goals go_wp2_with (first | ((with_reducible refine gate_callee (f := 39) rfl ?_); refine zG (some 15) Tryz.func39 (b_.calls k g s0_0 (wrap64 (s0_1 + 1)) t235 t236 w0 _ (zI79 HI0.out) (zC79 HB.out) A2.out) HK ?_; clear HI0 HB HK; intro w6 HI0 HB HK) | ((with_reducible refine gate_callee (f := 76) rfl ?_); refine zG (some 17) Tryz.func76 (t_.calls g t235 t236 93 true t238 t239 w0 _ (zI79 HI0.out) (zC79 HB.out) A3.out) HK ?_; clear HI0 HB HK; intro w7 HI0 HB HK) | ((with_reducible refine gate_callee (f := 76) rfl ?_); refine zG (some 17) Tryz.func76 (t_.calls g t235 t236 93 false t238 t239 w0 _ (zI79 HI0.out) (zC79 HB.out) A3.out) HK ?_; clear HI0 HB HK; intro w10 HI0 HB HK))
 ·
  go_ret2
  exact ⟨_, zX, zN, zI79 HI0.out, zC79 HB.out, zK HK.out⟩
 ·
  try simp only [Act.put, List.setIfInBounds_toArray, List.set_cons_succ, List.set_cons_zero]
  go_loopg [4] k (fun kq v4 w' => ∃ (x4_1 : List (S27)) (x1000_1 : ByteArray) (x1001_1 : Int), Aside0 (ele_.l0 kq x4_1 x1000_1 x1001_1 = some (r1, r2, r3, r4)) ∧ Aside0 (kq ≤ k) ∧ Aside0 (Kd.R k27 27 w' w.heap.size (fun _ => True) v4 x4_1) ∧ Aside0 (IsS79 w0 w' g x1000_1 x1001_1) ∧ Aside0 (KeepBut w w' g none) ∧ Aside0 (Below w0.heap.size w0 w'))
  case atStart => exact ⟨(([] : List (S27))), (t238), (t239), H', ⟨Nat.le_refl _⟩, ⟨zN⟩, ⟨zI79 HI0.out⟩, ⟨zK HK.out⟩, ⟨zC79 HB.out⟩⟩
  case round =>
   clear H'
   (try clear c4); (try clear hz8)
   obtain ⟨x4_1, x1000_1, x1001_1, HA, HK1, HO_4, HI0, HK, HB⟩ := hrel
   rcases gk with _ | k1
   · exact absurd HA.out (by simp [ele_.l0])
   have H := HA.out
   clear HA
   simp only [ele_.l0] at H
   replace H := Option.bind_eq_some_iff.mp H
   obtain ⟨⟨t240, t241, t242, t243, t246, t249, t250, t251⟩, A110, H⟩ := H
   try dsimp only at H
   have A11 := Aside0.mk A110
   clear A110
   by_cases c12 : t249 = true
   subst c12
   rw [if_pos rfl] at H
   by_cases c13 : x4_1.length < 1954687338268
   rw [if_pos c13] at H
   have LMc13 := Aside0.mk c13
   clear c13
   obtain ⟨y253, hy253⟩ : ∃ y_ : List (S27), y_ = (x4_1 ++ [(⟨t240, t241, t242, t243, t246⟩ : S27)]) := ⟨_, rfl⟩
   replace H : ((b_.f k1 t250 t251).bind fun bt256 => ((t_.f bt256.1 bt256.2 93).bind fun bt258 => (if bt258.1 = true then (some (y253, true, bt258.2.1, bt258.2.2)) else ((t_.f bt258.2.1 bt258.2.2 44).bind fun bt261 => (if bt261.1 = true then ((b_.f k1 bt261.2.1 bt261.2.2).bind fun bt264 => (ele_.l0 k1 y253 bt264.1 bt264.2)) else (some (([] : List (S27)), false, bt261.2.1, bt261.2.2))))))) = some (r1, r2, r3, r4) := by first | (rw [hy253]; with_reducible exact H) | (have H2_ := (Option.bind_some _ _).symm.trans H; rw [hy253]; with_reducible exact H2_) | (have H2_ := (Option.bind_some _ _).symm.trans H; with_reducible exact H2_) | with_reducible exact H | (rw [hy253]; exact H) | exact H
   have Ny253 := Aside0.mk hy253
   clear hy253
   replace H := Option.bind_eq_some_iff.mp H
   obtain ⟨⟨t256, t257⟩, A140, H⟩ := H
   try dsimp only at H
   have A14 := Aside0.mk A140
   clear A140
   replace H := Option.bind_eq_some_iff.mp H
   obtain ⟨⟨t258, t259, t260⟩, A150, H⟩ := H
   try dsimp only at H
   have A15 := Aside0.mk A150
   clear A150
   by_cases c16 : t258 = true
   subst c16
   rw [if_pos rfl] at H
   simp only [Option.some.injEq, Prod.mk.injEq] at H
   obtain ⟨rfl, rfl, rfl, rfl⟩ := H
   rotate_left
   replace c16 := Bool.eq_false_iff.mpr c16
   subst c16
   rw [if_neg Bool.false_ne_true] at H
   replace H := Option.bind_eq_some_iff.mp H
   obtain ⟨⟨t261, t262, t263⟩, A280, H⟩ := H
   try dsimp only at H
   have A28 := Aside0.mk A280
   clear A280
   by_cases c29 : t261 = true
   subst c29
   rw [if_pos rfl] at H
   replace H := Option.bind_eq_some_iff.mp H
   obtain ⟨⟨t264, t265⟩, A300, H⟩ := H
   try dsimp only at H
   have A30 := Aside0.mk A300
   clear A300
   have H' := Aside0.mk H
   clear H
   rotate_left
   replace c29 := Bool.eq_false_iff.mpr c29
   subst c29
   rw [if_neg Bool.false_ne_true] at H
   simp only [Option.some.injEq, Prod.mk.injEq] at H
   obtain ⟨rfl, rfl, rfl, rfl⟩ := H
   rotate_left
   ·
    rw [if_neg c13] at H
    exact absurd H (by simp)
   replace c12 := Bool.eq_false_iff.mpr c12
   subst c12
   rw [if_neg Bool.false_ne_true] at H
   simp only [Option.some.injEq, Prod.mk.injEq] at H
   obtain ⟨rfl, rfl, rfl, rfl⟩ := H
   rotate_left
   all_goals go_wp2_with (first | ((with_reducible refine gate_callee (f := 40) rfl ?_); refine goesL_ (some 20) rfl rfl Tryz.func40 (by kernel_rfl) rfl #[.pointer (some ⟨g, 0, none⟩)] rfl zM ?_; (with_reducible refine (ih_spec_reader_value k1 (by have := HK1.out; omega) g x1000_1 x1001_1 t240 t241 t242 t243 t246 true t250 t251 w0 _ ?side1 ?side2 A11.out).mono ?_); (case side1 => exact zI79 HI0.out); (case side2 => exact zC79 HB.out); rintro e w17 ⟨v244, v247, rfl, ho0, ho1, hi, hb, hk⟩; refine ⟨_, rfl, ?_⟩; have HO245 := Aside0.mk (Kd.R_lower ho0 (keep_size (w := w) (g := g) (row := none) (zK HK.out))); have HO248 := Aside0.mk (Kd.R_lower (Kd.R_new' ho1 (Kd.R_lt (zR HO_4.out))) (keep_size (w := w) (g := g) (row := none) (zK HK.out))); replace HO_4 := Aside0.mk (Kd.R_mono (Kd.R_told (Kd.R_told (Kd.R_oldK (IsS79.apart (show IsS79 w0 _ g x1000_1 x1001_1 from zI79 HI0.out) (zR HO_4.out) (by decide)) hk) (Kd.R_base ho0)) (Kd.R_base ho1)) (fun _ h_ => h_.1)); replace HK := Aside0.mk (KeepBut.trans (zK HK.out) hk (.inl rfl)); replace HB := Aside0.mk (hb); replace HI0 := Aside0.mk (hi); clear hb hk hi; (try clear ho0); (try clear ho1)) | ((with_reducible refine gate_dst (N := 5) rfl ?_); refine zbo (N := 5) (cs := #[.int .i64 0, .int .i64 0, .int .i64 0, .slice none 0 0, .slice none 0 0]) (t := 27) ?_; intro gb252 hg w18 hbox hb; replace HO_4 := Aside0.mk (Kd.R_below (Kd.R_elderB (zR HO_4.out) gb252 (Nat.le_of_eq hg.symm)) hb); replace HO245 := zrb HO245 hb; replace HO248 := Aside0.mk (Kd.R_below (Kd.R_elderB (zR HO248.out) gb252 (Nat.le_of_eq hg.symm)) hb); replace HB := Aside0.mk (below_step (zC79 HB.out) hb); have BK252 := Aside0.mk (hbox); have GW252 := Aside0.mk ((by rw [hg]; exact (keep_size (w := w) (g := g) (row := none) (zK HK.out)) : w.heap.size ≤ gb252)); have GE252 := Aside0.mk ((Nat.le_trans HW0.out (by rw [hg]; exact (keep_size (w := w) (g := g) (row := none) (zK HK.out)) : w.heap.size ≤ gb252) : w0.heap.size ≤ gb252)); replace HK := Aside0.mk (KeepBut.trans (zK HK.out) (KeepBut.of_below hb g none) (.inl rfl)); have NB0_252 := Aside0.mk ((by rw [hg]; exact Nat.ne_of_lt (IsS79.lt (show IsS79 w0 _ g t250 t251 from zI79 HI0.out)) : g ≠ gb252)); have NB252_0 := Aside0.mk ((by rw [hg]; exact Nat.ne_of_gt (IsS79.lt (show IsS79 w0 _ g t250 t251 from zI79 HI0.out)) : gb252 ≠ g)); replace HI0 := Aside0.mk (IsS79.below (zI79 HI0.out) hb); clear hb hbox hg; have hnb19 := NB252_0.out; have hnc19 := NB0_252.out; have hz20 := zc5 BK252.out; obtain ⟨Ao21, co21, eo21⟩ := Kd.R_slice HO245.out; subst eo21; obtain ⟨Ao22, co22, eo22⟩ := Kd.R_slice HO248.out; subst eo22) | ((with_reducible refine gate_store (t := 27) (p := 5) rfl ?_); refine store_event (t := 27) (p := 5) (v := ?vo_w23) (w1 := (((((w18.setCell ⟨gb252, 0, none⟩ (.int .i64 t240)).setCell ⟨gb252, 1, none⟩ (.int .i64 t241)).setCell ⟨gb252, 2, none⟩ (.int .i64 t242)).setCell ⟨gb252, 3, none⟩ (.slice Ao21 t243.length co21)).setCell ⟨gb252, 4, none⟩ (.slice Ao22 t246.length co22))) ?hg ?ho ?hn ?hr ?_; (case ho => rfl); (case hg => rfl); (case hn => rfl); (case hr => first | (go_simp; done) | (go_simp; rfl)); intro w23 hw; replace HO_4 : Aside0 (Kd.R k27 27 w23 w.heap.size (fun k_ => some k_ ≠ (.slice Ao21 t243.length co21 : Value).ownBlock ∧ some k_ ≠ (.slice Ao22 t246.length co22 : Value).ownBlock ∧ k_ ≠ gb252) u4 x4_1) := ⟨(by rw [hw]; exact (zR (Kd.R_mono (zFR (Kd.R_mono HO_4.out (fun k_ hk => (⟨hk, hk.2⟩ : _ ∧ k_ ≠ gb252)))) (fun _ hk => ⟨hk.1.1.1.2, ⟨hk.1.1.2, hk.1.2⟩⟩))))⟩; replace HO245 : Aside0 (Kd.R k64 64 w23 w.heap.size (fun _ => True) (.slice Ao21 t243.length co21) t243) := ⟨(by rw [hw]; exact (zR (Kd.R_mono (zFR (Kd.R_types HO245.out BK252.out (by decide))) (fun _ hk => trivial))))⟩; replace HO248 : Aside0 (Kd.R k27 27 w23 w.heap.size (fun k_ => some k_ ≠ (u4 : Value).ownBlock ∧ some k_ ≠ (.slice Ao21 t243.length co21 : Value).ownBlock ∧ k_ ≠ gb252) (.slice Ao22 t246.length co22) t246) := ⟨(by rw [hw]; exact (zR (Kd.R_mono (zFR (Kd.R_mono HO248.out (fun k_ hk => (⟨hk, hk.2⟩ : _ ∧ k_ ≠ gb252)))) (fun _ hk => ⟨hk.1.1.2, ⟨hk.1.1.1, hk.1.2⟩⟩))))⟩; replace BK252 : Aside0 (w23.heap[gb252]? = some (.cells #[.int .i64 t240, .int .i64 t241, .int .i64 t242, .slice Ao21 t243.length co21, .slice Ao22 t246.length co22] 27 (0, 0))) := ⟨(by rw [hw]; exact (zbp BK252))⟩; replace HI0 : Aside0 (IsS79 w0 w23 g t250 t251) := ⟨(by rw [hw]; exact (zI79 HI0.out))⟩; replace HK : Aside0 (KeepBut w w23 g none) := ⟨(by rw [hw]; exact (zK HK.out))⟩; replace HB : Aside0 (Below w0.heap.size w0 w23) := ⟨(by rw [hw]; exact (zC79 HB.out))⟩; clear hw; have hz24 := zc5 BK252.out) | ((with_reducible refine gate_builtin (b := .append) (xs := #[.tmp 25, .tmp 27]) rfl ?_); at_builtin; refine Kd.R_append k27 w.heap.size rfl (.tmp 25) (.tmp 27) 25 27 (.agg #[(.int .i64 0), (.int .i64 0), (.int .i64 0), (.slice none 0 0), (.slice none 0 0)]) 72 rfl Tryz.underlying25 info27 rfl (by decide) (by omega) u4 x4_1 (⟨t240, t241, t242, t243, t246⟩ : S27) [.int .i64 t240, .int .i64 t241, .int .i64 t242, .slice Ao21 t243.length co21, .slice Ao22 t246.length co22] (fun k_ => k_ ≠ gb252) (fun k_ => ((fun k_ => k_ ≠ gb252)) k_ ∧ some k_ ≠ (u4 : Value).ownBlock) rfl rfl ?aP (fun _ hk => hk) ?aF ?aO (Below.refl _ _) ?aS ?aL ?_; (case aP => exact k27_mkM _ _ _ (⟨t240, t241, t242, t243, t246⟩ : S27) (Kd.R_mono (Kd.R_types (Kd.R_apart' (HO245.out) (Kd.R_typed HO_4.out) (by decide)) BK252.out (by decide)) (fun k_ hk => ⟨hk.2, hk.1.2⟩)) (Kd.R_mono (HO248.out) (fun k_ hk => ⟨hk.2.2, hk.1⟩))); (case aF => exact (fun k_ hk => Kd.freshB (g := gb252) (o := .cells #[.int .i64 t240, .int .i64 t241, .int .i64 t242, .slice Ao21 t243.length co21, .slice Ao22 t246.length co22] 27 (0, 0)) (by (repeat refine zb ?_); exact BK252.out) k_ hk)); (case aO => exact (zR (Kd.R_mono HO_4.out (fun _ hk => hk.2.2)))); (case aS => exact (keep_size (w := w) (g := g) (row := none) (zK HK.out))); (case aL => have := LMc13.out; omega); intro v254 w25 ho hb hg hat; rw [← Ny253.out] at ho; replace HI0 := Aside0.mk (IsS79.grown (zI79 HI0.out) hg (IsS79.own_ne HI0.out HO_4.out (by decide))); replace BK252 := Aside0.mk (blk_grown (g := gb252) (o := .cells #[.int .i64 t240, .int .i64 t241, .int .i64 t242, .slice Ao21 t243.length co21, .slice Ao22 t246.length co22] 27 (0, 0)) (by (repeat refine zb ?_); exact BK252.out) hg (Kd.R_away HO_4.out (fun _ hk => hk.2.2))); replace HB := Aside0.mk (below_weaken (zC79 HB.out) HL.out hb); replace HK := Aside0.mk (KeepBut.trans (zK HK.out) (KeepBut.of_grown hg g) (Kd.R_base2 HO_4.out)); have HO255 := Aside0.mk (ho); clear HO_4 HO245 HO248; clear ho hb hg hat) | ((with_reducible refine gate_callee (f := 39) rfl ?_); refine zGk (some 30) Tryz.func39 (b_.calls k1 g t250 t251 t256 t257 w0 _ (zI79 HI0.out) (zC79 HB.out) A14.out) HK ?_; intro w26 hk; replace BK252 := zkb hk BK252 NB252_0; replace HO255 := zhs79 HI0 HO255 hk; clear hk HI0 HB HK; intro HI0 HB HK) | ((with_reducible refine gate_callee (f := 76) rfl ?_); refine zGk (some 32) Tryz.func76 (t_.calls g t256 t257 93 true t259 t260 w0 _ (zI79 HI0.out) (zC79 HB.out) A15.out) HK ?_; intro w27 hk; replace BK252 := zkb hk BK252 NB252_0; replace HO255 := zhs79 HI0 HO255 hk; clear hk HI0 HB HK; intro HI0 HB HK) | ((with_reducible refine gate_store (t := 27) (p := 5) rfl ?_); refine store_event (t := 27) (p := 5) (v := ?vo_w37) (w1 := (((((w18.setCell ⟨gb252, 0, none⟩ (.int .i64 t240)).setCell ⟨gb252, 1, none⟩ (.int .i64 t241)).setCell ⟨gb252, 2, none⟩ (.int .i64 t242)).setCell ⟨gb252, 3, none⟩ (.slice Ao21 t243.length co21)).setCell ⟨gb252, 4, none⟩ (.slice Ao22 t246.length co22))) ?hg ?ho ?hn ?hr ?_; (case ho => rfl); (case hg => rfl); (case hn => rfl); (case hr => first | (go_simp; done) | (go_simp; rfl)); intro w37 hw; replace HO_4 : Aside0 (Kd.R k27 27 w37 w.heap.size (fun k_ => some k_ ≠ (.slice Ao21 t243.length co21 : Value).ownBlock ∧ some k_ ≠ (.slice Ao22 t246.length co22 : Value).ownBlock ∧ k_ ≠ gb252) u4 x4_1) := ⟨(by rw [hw]; exact (zR (Kd.R_mono (zFR (Kd.R_mono HO_4.out (fun k_ hk => (⟨hk, hk.2⟩ : _ ∧ k_ ≠ gb252)))) (fun _ hk => ⟨hk.1.1.1.2, ⟨hk.1.1.2, hk.1.2⟩⟩))))⟩; replace HO245 : Aside0 (Kd.R k64 64 w37 w.heap.size (fun _ => True) (.slice Ao21 t243.length co21) t243) := ⟨(by rw [hw]; exact (zR (Kd.R_mono (zFR (Kd.R_types HO245.out BK252.out (by decide))) (fun _ hk => trivial))))⟩; replace HO248 : Aside0 (Kd.R k27 27 w37 w.heap.size (fun k_ => some k_ ≠ (u4 : Value).ownBlock ∧ some k_ ≠ (.slice Ao21 t243.length co21 : Value).ownBlock ∧ k_ ≠ gb252) (.slice Ao22 t246.length co22) t246) := ⟨(by rw [hw]; exact (zR (Kd.R_mono (zFR (Kd.R_mono HO248.out (fun k_ hk => (⟨hk, hk.2⟩ : _ ∧ k_ ≠ gb252)))) (fun _ hk => ⟨hk.1.1.2, ⟨hk.1.1.1, hk.1.2⟩⟩))))⟩; replace BK252 : Aside0 (w37.heap[gb252]? = some (.cells #[.int .i64 t240, .int .i64 t241, .int .i64 t242, .slice Ao21 t243.length co21, .slice Ao22 t246.length co22] 27 (0, 0))) := ⟨(by rw [hw]; exact (zbp BK252))⟩; replace HI0 : Aside0 (IsS79 w0 w37 g t250 t251) := ⟨(by rw [hw]; exact (zI79 HI0.out))⟩; replace HK : Aside0 (KeepBut w w37 g none) := ⟨(by rw [hw]; exact (zK HK.out))⟩; replace HB : Aside0 (Below w0.heap.size w0 w37) := ⟨(by rw [hw]; exact (zC79 HB.out))⟩; clear hw; have hz38 := zc5 BK252.out) | ((with_reducible refine gate_callee (f := 76) rfl ?_); refine zGk (some 32) Tryz.func76 (t_.calls g t256 t257 93 false t259 t260 w0 _ (zI79 HI0.out) (zC79 HB.out) A15.out) HK ?_; intro w41 hk; replace BK252 := zkb hk BK252 NB252_0; replace HO255 := zhs79 HI0 HO255 hk; clear hk HI0 HB HK; intro HI0 HB HK) | ((with_reducible refine gate_callee (f := 76) rfl ?_); refine zGk (some 35) Tryz.func76 (t_.calls g t259 t260 44 true t262 t263 w0 _ (zI79 HI0.out) (zC79 HB.out) A28.out) HK ?_; intro w42 hk; replace BK252 := zkb hk BK252 NB252_0; replace HO255 := zhs79 HI0 HO255 hk; clear hk HI0 HB HK; intro HI0 HB HK) | ((with_reducible refine gate_callee (f := 39) rfl ?_); refine zGk (some 38) Tryz.func39 (b_.calls k1 g t262 t263 t264 t265 w0 _ (zI79 HI0.out) (zC79 HB.out) A30.out) HK ?_; intro w43 hk; replace BK252 := zkb hk BK252 NB252_0; replace HO255 := zhs79 HI0 HO255 hk; clear hk HI0 HB HK; intro HI0 HB HK) | ((with_reducible refine gate_store (t := 27) (p := 5) rfl ?_); refine store_event (t := 27) (p := 5) (v := ?vo_w50) (w1 := (((((w18.setCell ⟨gb252, 0, none⟩ (.int .i64 t240)).setCell ⟨gb252, 1, none⟩ (.int .i64 t241)).setCell ⟨gb252, 2, none⟩ (.int .i64 t242)).setCell ⟨gb252, 3, none⟩ (.slice Ao21 t243.length co21)).setCell ⟨gb252, 4, none⟩ (.slice Ao22 t246.length co22))) ?hg ?ho ?hn ?hr ?_; (case ho => rfl); (case hg => rfl); (case hn => rfl); (case hr => first | (go_simp; done) | (go_simp; rfl)); intro w50 hw; replace HO_4 : Aside0 (Kd.R k27 27 w50 w.heap.size (fun k_ => some k_ ≠ (.slice Ao21 t243.length co21 : Value).ownBlock ∧ some k_ ≠ (.slice Ao22 t246.length co22 : Value).ownBlock ∧ k_ ≠ gb252) u4 x4_1) := ⟨(by rw [hw]; exact (zR (Kd.R_mono (zFR (Kd.R_mono HO_4.out (fun k_ hk => (⟨hk, hk.2⟩ : _ ∧ k_ ≠ gb252)))) (fun _ hk => ⟨hk.1.1.1.2, ⟨hk.1.1.2, hk.1.2⟩⟩))))⟩; replace HO245 : Aside0 (Kd.R k64 64 w50 w.heap.size (fun _ => True) (.slice Ao21 t243.length co21) t243) := ⟨(by rw [hw]; exact (zR (Kd.R_mono (zFR (Kd.R_types HO245.out BK252.out (by decide))) (fun _ hk => trivial))))⟩; replace HO248 : Aside0 (Kd.R k27 27 w50 w.heap.size (fun k_ => some k_ ≠ (u4 : Value).ownBlock ∧ some k_ ≠ (.slice Ao21 t243.length co21 : Value).ownBlock ∧ k_ ≠ gb252) (.slice Ao22 t246.length co22) t246) := ⟨(by rw [hw]; exact (zR (Kd.R_mono (zFR (Kd.R_mono HO248.out (fun k_ hk => (⟨hk, hk.2⟩ : _ ∧ k_ ≠ gb252)))) (fun _ hk => ⟨hk.1.1.2, ⟨hk.1.1.1, hk.1.2⟩⟩))))⟩; replace BK252 : Aside0 (w50.heap[gb252]? = some (.cells #[.int .i64 t240, .int .i64 t241, .int .i64 t242, .slice Ao21 t243.length co21, .slice Ao22 t246.length co22] 27 (0, 0))) := ⟨(by rw [hw]; exact (zbp BK252))⟩; replace HI0 : Aside0 (IsS79 w0 w50 g t250 t251) := ⟨(by rw [hw]; exact (zI79 HI0.out))⟩; replace HK : Aside0 (KeepBut w w50 g none) := ⟨(by rw [hw]; exact (zK HK.out))⟩; replace HB : Aside0 (Below w0.heap.size w0 w50) := ⟨(by rw [hw]; exact (zC79 HB.out))⟩; clear hw; have hz51 := zc5 BK252.out) | ((with_reducible refine gate_callee (f := 76) rfl ?_); refine zGk (some 35) Tryz.func76 (t_.calls g t259 t260 44 false t262 t263 w0 _ (zI79 HI0.out) (zC79 HB.out) A28.out) HK ?_; intro w55 hk; replace BK252 := zkb hk BK252 NB252_0; replace HO255 := zhs79 HI0 HO255 hk; clear hk HI0 HB HK; intro HI0 HB HK) | ((with_reducible refine gate_callee (f := 40) rfl ?_); refine goesL_ (some 20) rfl rfl Tryz.func40 (by kernel_rfl) rfl #[.pointer (some ⟨g, 0, none⟩)] rfl zM ?_; (with_reducible refine (ih_spec_reader_value k1 (by have := HK1.out; omega) g x1000_1 x1001_1 t240 t241 t242 t243 t246 false t250 t251 w0 _ ?side1 ?side2 A11.out).mono ?_); (case side1 => exact zI79 HI0.out); (case side2 => exact zC79 HB.out); rintro e w56 ⟨v244, v247, rfl, ho0, ho1, hi, hb, hk⟩; refine ⟨_, rfl, ?_⟩; have HO245 := Aside0.mk (Kd.R_lower ho0 (keep_size (w := w) (g := g) (row := none) (zK HK.out))); have HO248 := Aside0.mk (Kd.R_lower (Kd.R_new' ho1 (Kd.R_lt (zR HO_4.out))) (keep_size (w := w) (g := g) (row := none) (zK HK.out))); replace HO_4 := Aside0.mk (Kd.R_mono (Kd.R_told (Kd.R_told (Kd.R_oldK (IsS79.apart (show IsS79 w0 _ g x1000_1 x1001_1 from zI79 HI0.out) (zR HO_4.out) (by decide)) hk) (Kd.R_base ho0)) (Kd.R_base ho1)) (fun _ h_ => h_.1)); replace HK := Aside0.mk (KeepBut.trans (zK HK.out) hk (.inl rfl)); replace HB := Aside0.mk (hb); replace HI0 := Aside0.mk (hi); clear hb hk hi; (try clear ho0); (try clear ho1)))
   ·
    go_ret2
    exact ⟨_, zX, by (with_reducible repeat (first | apply Kd.R_alloc | apply Kd.R_drewN | apply Kd.R_drew)); exact Kd.R_mono HO255.out (fun _ hk => trivial), zI79 HI0.out, zC79 HB.out, zK HK.out⟩
   ·
    go_roundg k1
    case measure => have := HK1.out; omega
    case rel => exact ⟨(y253), (t264), (t265), H', ⟨by have := HK1.out; omega⟩, ⟨by (with_reducible repeat (first | apply Kd.R_alloc | apply Kd.R_drewN | apply Kd.R_drew)); exact Kd.R_mono HO255.out (fun _ hk => trivial)⟩, ⟨zI79 HI0.out⟩, ⟨zK HK.out⟩, ⟨zC79 HB.out⟩⟩
   ·
    go_ret2
    exact ⟨_, zX, zN, zI79 HI0.out, zC79 HB.out, zK HK.out⟩
   ·
    go_ret2
    exact ⟨_, zX, zN, zI79 HI0.out, zC79 HB.out, zK HK.out⟩
theorem v_.calls_g (k : Nat) : v_.CallsP k ∧ mem_.CallsP k ∧ ele_.CallsP k := by
  induction k using Nat.strongRecOn with
  | _ k ih =>
  exact ⟨v_.calls_ k (fun m_ h_ => (ih m_ h_).1) (fun m_ h_ => (ih m_ h_).2.1) (fun m_ h_ => (ih m_ h_).2.2), mem_.calls_ k (fun m_ h_ => (ih m_ h_).1) (fun m_ h_ => (ih m_ h_).2.1) (fun m_ h_ => (ih m_ h_).2.2), ele_.calls_ k (fun m_ h_ => (ih m_ h_).1) (fun m_ h_ => (ih m_ h_).2.1) (fun m_ h_ => (ih m_ h_).2.2)⟩
theorem v_.calls (k : Nat) : ∀ (g : Nat) (s0_0 : ByteArray) (s0_1 : Int) (r1 : Int) (r2 : Int) (r3 : Int) (r4 : List (S64)) (r5 : List (S27)) (r6 : Bool) (r7 : ByteArray) (r8 : Int) (w0 w : World) (hI : IsS79 w0 w g s0_0 s0_1) (hB : Below w0.heap.size w0 w) (h : v_.f k s0_0 s0_1 = some (r1, r2, r3, r4, r5, r6, r7, r8)),
    Calls Tryz.prog 40 #[.pointer (some ⟨g, 0, none⟩)] w fun e w' => ∃ v3_ v4_ : Value, e = .returned (.tuple #[.agg #[.int .i64 r1, .int .i64 r2, .int .i64 r3, v3_, v4_], .bool r6]) ∧ Kd.R k64 64 w' w.heap.size (fun _ => True) v3_ r4 ∧ Kd.R k27 27 w' w.heap.size (fun k_ => some k_ ≠ (v3_ : Value).ownBlock) v4_ r5 ∧ IsS79 w0 w' g r7 r8 ∧ Below w0.heap.size w0 w' ∧ KeepBut w w' g none := (v_.calls_g k).1
end Go.Proofs.YtpdohioobbfncaaGreatDoor.PFnJpWildStop