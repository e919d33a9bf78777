/- what the Go functions that the law FnJpWildStop reaches compute, each as a plain function, with the proof that the Go code computes just that; no condition beside those that each theorem states. -/
import Derived.Test.YtpdohioobbfncaaGreatDoorPFnJpWildStopx0
import Derived.Test.YtpdohioobbfncaaGreatDoorPFnJpWildStopx1
import Derived.Test.YtpdohioobbfncaaGreatDoorPFnJpWildStopx2
import Derived.Test.YtpdohioobbfncaaGreatDoorPFnJpWildStopx3
namespace Go.Proofs.YtpdohioobbfncaaGreatDoor.PFnJpWildStop
open Go.RowKit Go.Proofs.YtpdohioobbfncaaGreatDoorW.PrintWords Go.Proofs.YtpdohioobbfncaaGreatDoorW.PrintLast Go.Proofs.YtpdohioobbfncaaGreatDoorW.PrintMore
set_option linter.unusedVariables false
set_option linter.unusedSimpArgs false
set_option maxHeartbeats 8000000 in
set_option maxRecDepth 100000 in
theorem v_.calls_ (k : Nat) (ih_spec_reader_value : ∀ m_, m_ < k → v_.CallsP m_) (ih_spec_reader_members : ∀ m_, m_ < k → mem_.CallsP m_) (ih_spec_reader_elements : ∀ m_, m_ < k → ele_.CallsP m_) : v_.CallsP k := by
 intro g s0_0 s0_1 r1 r2 r3 r4 r5 r6 r7 r8 w0 w hI hB h
 cases k with
  | zero => exact absurd h (by simp [v_.f])
  | succ k =>
 simp only [v_.f] at h
 have hu27 := Tryz.underlying27
 have HI0 := Aside0.mk hI
 have HK := Aside0.mk (KeepBut.refl w g none)
 have HL := Aside0.mk hB.size
 clear hI
 have HW0 := Aside0.mk hB.size
 have HB := Aside0.mk hB
 clear hB
 have H : ((her_.f s0_0 s0_1).bind fun bt155 => (if bt155.1 = 123 then ((mem_.f k bt155.2.1 bt155.2.2).bind fun bt158 => (some (6, s0_1, bt158.2.2.2.2, bt158.1, bt158.2.1, bt158.2.2.1, bt158.2.2.2.1, bt158.2.2.2.2))) else (if bt155.1 = 91 then ((ele_.f k bt155.2.1 bt155.2.2).bind fun bt167 => (some (5, s0_1, bt167.2.2.2, ([] : List (S64)), bt167.1, bt167.2.1, bt167.2.2.1, bt167.2.2.2))) else (if bt155.1 = 34 then ((q_.f k bt155.2.1 bt155.2.2).bind fun bt173 => (some (4, s0_1, bt173.2.2, ([] : List (S64)), ([] : List (S27)), bt173.1, bt173.2.1, bt173.2.2))) else (if bt155.1 = 45 then (v_.j0 k true true bt155.2.1 bt155.2.2 0 s0_1 0) else (if 48 ≤ bt155.1 then (v_.j0 k true (decide (bt155.1 ≤ 57)) bt155.2.1 bt155.2.2 0 s0_1 0) else (v_.j0 k true false bt155.2.1 bt155.2.2 0 s0_1 0))))))) = some (r1, r2, r3, r4, r5, r6, r7, r8) := h
 clear h
 replace H := Option.bind_eq_some_iff.mp H
 obtain ⟨⟨t155, t156, t157⟩, A20, H⟩ := H
 try dsimp only at H
 have A2 := Aside0.mk A20
 clear A20
 by_cases c3 : t155 = 123
 rw [if_pos c3] at H
 have c3b0 := beq_iff_eq.mpr c3
 have c3b1 := bne_eq_false_iff_eq.mpr c3
 clear c3
 replace H := Option.bind_eq_some_iff.mp H
 obtain ⟨⟨t158, t161, t164, t165, t166⟩, A40, H⟩ := H
 try dsimp only at H
 have A4 := Aside0.mk A40
 clear A40
 simp only [Option.some.injEq, Prod.mk.injEq] at H
 obtain ⟨rfl, rfl, rfl, rfl, rfl, rfl, rfl, rfl⟩ := H
 go_enter Tryz.func40, Tryz.ntmps40
 rotate_left
 rw [if_neg c3] at H
 have c3b0 := beq_eq_false_iff_ne.mpr c3
 have c3b1 := bne_iff_ne.mpr c3
 by_cases c20 : t155 = 91
 rw [if_pos c20] at H
 have c20b0 := beq_iff_eq.mpr c20
 have c20b1 := bne_eq_false_iff_eq.mpr c20
 clear c20
 replace H := Option.bind_eq_some_iff.mp H
 obtain ⟨⟨t167, t170, t171, t172⟩, A210, H⟩ := H
 try dsimp only at H
 have A21 := Aside0.mk A210
 clear A210
 simp only [Option.some.injEq, Prod.mk.injEq] at H
 obtain ⟨rfl, rfl, rfl, rfl, rfl, rfl, rfl, rfl⟩ := H
 go_enter Tryz.func40, Tryz.ntmps40
 rotate_left
 rw [if_neg c20] at H
 have c20b0 := beq_eq_false_iff_ne.mpr c20
 have c20b1 := bne_iff_ne.mpr c20
 by_cases c36 : t155 = 34
 rw [if_pos c36] at H
 have c36b0 := beq_iff_eq.mpr c36
 have c36b1 := bne_eq_false_iff_eq.mpr c36
 clear c36
 replace H := Option.bind_eq_some_iff.mp H
 obtain ⟨⟨t173, t174, t175⟩, A370, H⟩ := H
 try dsimp only at H
 have A37 := Aside0.mk A370
 clear A370
 simp only [Option.some.injEq, Prod.mk.injEq] at H
 obtain ⟨rfl, rfl, rfl, rfl, rfl, rfl, rfl, rfl⟩ := H
 go_enter Tryz.func40, Tryz.ntmps40
 rotate_left
 ·
  rw [if_neg c36] at H
  have c36b0 := beq_eq_false_iff_ne.mpr c36
  have c36b1 := bne_iff_ne.mpr c36
  have HC51 := Aside0.mk H
  clear H
  go_enter Tryz.func40, Tryz.ntmps40
  go_upto_region 14 with (first | ((with_reducible refine gate_dst (N := 2) rfl ?_); refine zbo (N := 2) (cs := #[.int .i64 0, .int .i64 0, .int .i64 0, .slice none 0 0, .slice none 0 0]) (t := 27) ?_; intro gb153 hg w52 hbox hb; replace HB := Aside0.mk (below_step (zC79 HB.out) hb); have BK153 := Aside0.mk (hbox); have GW153 := Aside0.mk ((by rw [hg]; exact (keep_size (w := w) (g := g) (row := none) (zK HK.out)) : w.heap.size ≤ gb153)); have GE153 := Aside0.mk ((Nat.le_trans HW0.out (by rw [hg]; exact (keep_size (w := w) (g := g) (row := none) (zK HK.out)) : w.heap.size ≤ gb153) : w0.heap.size ≤ gb153)); replace HK := Aside0.mk (KeepBut.trans (zK HK.out) (KeepBut.of_below hb g none) (.inl rfl)); have NB0_153 := Aside0.mk ((by rw [hg]; exact Nat.ne_of_lt (IsS79.lt (show IsS79 w0 _ g s0_0 s0_1 from zI79 HI0.out)) : g ≠ gb153)); have NB153_0 := Aside0.mk ((by rw [hg]; exact Nat.ne_of_gt (IsS79.lt (show IsS79 w0 _ g s0_0 s0_1 from zI79 HI0.out)) : gb153 ≠ g)); replace HI0 := Aside0.mk (IsS79.below (zI79 HI0.out) hb); clear hb hbox hg; obtain ⟨HGz53, hgz53⟩ := HI0.out; have hz53 := zc2 HGz53; clear HGz53 hgz53) | ((with_reducible refine gate_dst (N := 4) rfl ?_); refine zbo (N := 4) (cs := #[.int .i64 0, .int .i64 0, .int .i64 0, .slice none 0 0, .slice none 0 0]) (t := 27) ?_; intro gb154 hg w54 hbox hb; replace HB := Aside0.mk (below_step (zC79 HB.out) hb); have BK154 := Aside0.mk (hbox); have GW154 := Aside0.mk ((by rw [hg]; exact (keep_size (w := w) (g := g) (row := none) (zK HK.out)) : w.heap.size ≤ gb154)); have GE154 := Aside0.mk ((Nat.le_trans HW0.out (by rw [hg]; exact (keep_size (w := w) (g := g) (row := none) (zK HK.out)) : w.heap.size ≤ gb154) : w0.heap.size ≤ gb154)); replace HK := Aside0.mk (KeepBut.trans (zK HK.out) (KeepBut.of_below hb g none) (.inl rfl)); have NB153_154 := znl hg BK153; have NB154_153 := zng hg BK153; replace BK153 := zbb BK153 hb; have NB0_154 := Aside0.mk ((by rw [hg]; exact Nat.ne_of_lt (IsS79.lt (show IsS79 w0 _ g s0_0 s0_1 from zI79 HI0.out)) : g ≠ gb154)); have NB154_0 := Aside0.mk ((by rw [hg]; exact Nat.ne_of_gt (IsS79.lt (show IsS79 w0 _ g s0_0 s0_1 from zI79 HI0.out)) : gb154 ≠ g)); replace HI0 := Aside0.mk (IsS79.below (zI79 HI0.out) hb); clear hb hbox hg; have hnb55 := NB154_153.out; have hnc55 := NB153_154.out; have hnb56 := NB154_0.out; have hnc56 := NB0_154.out; have hz57 := zc5 BK154.out) | ((with_reducible refine gate_callee (f := 56) rfl ?_); refine zGk (some 13) Tryz.func56 (her_.calls g s0_0 s0_1 t155 t156 t157 w0 _ (zI79 HI0.out) (zC79 HB.out) A2.out) HK ?_; intro w58 hk; replace BK153 := Aside0.mk (KeepBut.blk hk (g' := gb153) (o := .cells #[.int .i64 0, .int .i64 0, .int .i64 0, .slice none 0 0, .slice none 0 0] 27 (0, 0)) (zbf BK153 NB153_154) NB153_0.out (by simp)); replace BK154 := Aside0.mk (KeepBut.blk hk (g' := gb154) (o := .cells #[.int .i64 0, .int .i64 s0_1, .int .i64 0, .slice none 0 0, .slice none 0 0] 27 (0, 0)) (zbp BK154) NB154_0.out (by simp)); clear hk HI0 HB HK; intro HI0 HB HK))
  (try simp only [Act.put, List.setIfInBounds_toArray, List.set_cons_zero, List.set_cons_succ])
  go_cut [42] (fun v42 wc => ∃ (kq : Nat) (x42_50 : Bool), v42 = .bool x42_50 ∧ Aside0 (v_.j0 kq true x42_50 t156 t157 0 s0_1 0 = some (r1, r2, r3, r4, r5, r6, r7, r8)) ∧ Aside0 (kq ≤ k) ∧ Aside0 (wc.heap[gb153]? = some (.cells #[.int .i64 0, .int .i64 0, .int .i64 0, (.slice none 0 0), (.slice none 0 0)] 27 (0, 0))) ∧ Aside0 (wc.heap[gb154]? = some (.cells #[.int .i64 0, .int .i64 s0_1, .int .i64 0, (.slice none 0 0), (.slice none 0 0)] 27 (0, 0))) ∧ Aside0 (IsS79 w0 wc g t156 t157) ∧ Aside0 (KeepBut w wc g none) ∧ Aside0 (Below w0.heap.size w0 wc))
  case first =>
   have H := HC51.out
   clear HC51
   by_cases c59 : t155 = 45
   ·
    rw [if_pos c59] at H
    have c59b0 := beq_iff_eq.mpr c59
    have c59b1 := bne_eq_false_iff_eq.mpr c59
    clear c59
    (first | rw [c59b0] | (simp only [i64_w, i32_w]; rw [c59b0]) | rw [c59b1] | skip)
    have H' := Aside0.mk H
    clear H
    go_wp2
    go_meet
    case rel => exact ⟨_, (true), zE, H', ⟨by first | omega | exact Nat.le_refl _⟩, ⟨zbx BK153⟩, ⟨zbx BK154⟩, ⟨zI79 HI0.out⟩, ⟨zK HK.out⟩, ⟨zC79 HB.out⟩⟩
   rw [if_neg c59] at H
   have c59b0 := beq_eq_false_iff_ne.mpr c59
   have c59b1 := bne_iff_ne.mpr c59
   (first | rw [c59b0] | (simp only [i64_w, i32_w]; rw [c59b0]) | rw [c59b1] | skip)
   by_cases c60 : 48 ≤ t155
   ·
    rw [if_pos c60] at H
    have c60b0 := decide_eq_true c60
    clear c60
    have H' := Aside0.mk H
    clear H
    go_wp2
    go_meet
    case rel => exact ⟨_, (decide (t155 ≤ 57)), zE, H', ⟨by first | omega | exact Nat.le_refl _⟩, ⟨zbx BK153⟩, ⟨zbx BK154⟩, ⟨zI79 HI0.out⟩, ⟨zK HK.out⟩, ⟨zC79 HB.out⟩⟩
   rw [if_neg c60] at H
   have c60b0 := decide_eq_false c60
   clear c60
   have H' := Aside0.mk H
   clear H
   go_wp2
   go_meet
   case rel => exact ⟨_, (false), zE, H', ⟨by first | omega | exact Nat.le_refl _⟩, ⟨zbx BK153⟩, ⟨zbx BK154⟩, ⟨zI79 HI0.out⟩, ⟨zK HK.out⟩, ⟨zC79 HB.out⟩⟩
  clear HC51
  (try clear c3); (try clear c3b0); (try clear c3b1); (try clear c20); (try clear c20b0); (try clear c20b1); (try clear c36); (try clear c36b0); (try clear c36b1); (try clear hz53); (try clear hz57)
  obtain ⟨kq, x42_50, rfl, HA, HJ50, BK153, BK154, HI0, HK, HB⟩ := hcut
  rcases kq with _ | kj50
  · exact absurd HA.out (by simp [v_.j0])
  have H := HA.out
  clear HA
  simp only [v_.j0] at H
  by_cases c61 : x42_50 = true
  ·
   subst c61
   rw [if_pos rfl] at H
   replace H := Option.bind_eq_some_iff.mp H
   obtain ⟨⟨t176, t177, t178⟩, A620, H⟩ := H
   try dsimp only at H
   have A62 := Aside0.mk A620
   clear A620
   simp only [Option.some.injEq, Prod.mk.injEq] at H
   obtain ⟨rfl, rfl, rfl, rfl, rfl, rfl, rfl, rfl⟩ := H
   have hnb63 := NB154_153.out
   have hnc63 := NB153_154.out
   have hnb64 := NB154_0.out
   have hnc64 := NB0_154.out
   have hz65 := zc5 BK154.out
   go_wp2_with (first | ((with_reducible refine gate_callee (f := 60) rfl ?_); refine goesL_ (some 55) rfl rfl Tryz.func60 (by kernel_rfl) rfl #[.pointer (some ⟨g, 0, none⟩)] rfl zM ?_; (with_reducible refine (n_.calls kj50 g t156 t157 t176 t177 t178 w0 _ ?side1 ?side2 A62.out).mono ?_); (case side1 => exact zI79 HI0.out); (case side2 => exact zC79 HB.out); rintro e w66 ⟨rfl, hi, hb, hk⟩; refine ⟨_, rfl, ?_⟩; replace BK153 := Aside0.mk (KeepBut.blk hk (g' := gb153) (o := .cells #[.int .i64 0, .int .i64 0, .int .i64 0, .slice none 0 0, .slice none 0 0] 27 (0, 0)) (zbf BK153 NB153_154) NB153_0.out (by simp)); replace BK154 := Aside0.mk (KeepBut.blk hk (g' := gb154) (o := .cells #[.int .i64 3, .int .i64 s0_1, .int .i64 0, .slice none 0 0, .slice none 0 0] 27 (0, 0)) (by (repeat refine zb ?_); refine blk_put (cs := #[.int .i64 0, .int .i64 s0_1, .int .i64 0, .slice none 0 0, .slice none 0 0]) ?_ 0 _ rfl; (repeat refine zb ?_); exact BK154.out) NB154_0.out (by simp)); replace HK := Aside0.mk (KeepBut.trans (zK HK.out) hk (.inl rfl)); replace HB := Aside0.mk (hb); replace HI0 := Aside0.mk (hi); clear hb hk hi; obtain ⟨HGz67, hgz67⟩ := HI0.out; have hz67 := zc2 HGz67; clear HGz67 hgz67; have hz68 := zc5 BK154.out; have hnb69 := NB153_0.out; have hnc69 := NB0_153.out; have hz70 := zc5 BK153.out))
   refine bodyPost_ret (results_ct rfl _ _ gb153 27 #[.int .i64 3, .int .i64 s0_1, .int .i64 t178, .slice none 0 0, .slice none 0 0] (0, 0) _ rfl (by (repeat refine zb ?_); refine blk_put (cs := #[.int .i64 3, .int .i64 s0_1, .int .i64 t178, .slice none 0 0, .slice none 0 0]) ?_ 4 _ rfl; (repeat refine zb ?_); refine blk_put (cs := #[.int .i64 3, .int .i64 s0_1, .int .i64 t178, .slice none 0 0, .slice none 0 0]) ?_ 3 _ rfl; (repeat refine zb ?_); refine blk_put (cs := #[.int .i64 3, .int .i64 s0_1, .int .i64 0, .slice none 0 0, .slice none 0 0]) ?_ 2 _ rfl; (repeat refine zb ?_); refine blk_put (cs := #[.int .i64 3, .int .i64 0, .int .i64 0, .slice none 0 0, .slice none 0 0]) ?_ 1 _ rfl; (repeat refine zb ?_); refine blk_put (cs := #[.int .i64 0, .int .i64 0, .int .i64 0, .slice none 0 0, .slice none 0 0]) ?_ 0 _ rfl; (repeat refine zb ?_); refine blk_far ?_ NB153_154.out _; (repeat refine zb ?_); exact BK153.out) Tryz.underlying27 rfl (by kernel_rfl)) rfl ?_
   exact ⟨_, _, zX, zN, zN, zI79 HI0.out, zC79 HB.out, zK HK.out⟩
  replace c61 := Bool.eq_false_iff.mpr c61
  subst c61
  rw [if_neg Bool.false_ne_true] at H
  replace H := Option.bind_eq_some_iff.mp H
  obtain ⟨⟨t179, t180, t181⟩, A710, H⟩ := H
  try dsimp only at H
  have A71 := Aside0.mk A710
  clear A710
  by_cases c72 : t179 = true
  ·
   subst c72
   rw [if_pos rfl] at H
   simp only [Option.some.injEq, Prod.mk.injEq] at H
   obtain ⟨rfl, rfl, rfl, rfl, rfl, rfl, rfl, rfl⟩ := H
   go_wp2_with (first | ((with_reducible refine gate_callee (f := 61) rfl ?_); refine zGk (some 58) Tryz.func61 (w_.calls g t156 t157 (⟨#[110, 117, 108, 108]⟩ : ByteArray) true t180 t181 w0 _ (zI79 HI0.out) (zC79 HB.out) A71.out) HK ?_; intro w73 hk; replace BK153 := zkb hk BK153 NB153_0; replace BK154 := zkb hk BK154 NB154_0; clear hk HI0 HB HK; intro HI0 HB HK; have hnb74 := NB154_153.out; have hnc74 := NB153_154.out; have hnb75 := NB154_0.out; have hnc75 := NB0_154.out; have hz76 := zc5 BK154.out; obtain ⟨HGz77, hgz77⟩ := HI0.out; have hz77 := zc2 HGz77; clear HGz77 hgz77; have hnb78 := NB153_0.out; have hnc78 := NB0_153.out; have hz79 := zc5 BK153.out))
   refine bodyPost_ret (results_ct rfl _ _ gb153 27 #[.int .i64 0, .int .i64 s0_1, .int .i64 t181, .slice none 0 0, .slice none 0 0] (0, 0) _ rfl (by (repeat refine zb ?_); refine blk_put (cs := #[.int .i64 0, .int .i64 s0_1, .int .i64 t181, .slice none 0 0, .slice none 0 0]) ?_ 4 _ rfl; (repeat refine zb ?_); refine blk_put (cs := #[.int .i64 0, .int .i64 s0_1, .int .i64 t181, .slice none 0 0, .slice none 0 0]) ?_ 3 _ rfl; (repeat refine zb ?_); refine blk_put (cs := #[.int .i64 0, .int .i64 s0_1, .int .i64 0, .slice none 0 0, .slice none 0 0]) ?_ 2 _ rfl; (repeat refine zb ?_); refine blk_put (cs := #[.int .i64 0, .int .i64 0, .int .i64 0, .slice none 0 0, .slice none 0 0]) ?_ 1 _ rfl; (repeat refine zb ?_); refine blk_put (cs := #[.int .i64 0, .int .i64 0, .int .i64 0, .slice none 0 0, .slice none 0 0]) ?_ 0 _ rfl; (repeat refine zb ?_); refine blk_far ?_ NB153_154.out _; (repeat refine zb ?_); refine blk_far ?_ NB153_154.out _; (repeat refine zb ?_); exact BK153.out) Tryz.underlying27 rfl (by kernel_rfl)) rfl ?_
   exact ⟨_, _, zX, zN, zN, zI79 HI0.out, zC79 HB.out, zK HK.out⟩
  replace c72 := Bool.eq_false_iff.mpr c72
  subst c72
  rw [if_neg Bool.false_ne_true] at H
  replace H := Option.bind_eq_some_iff.mp H
  obtain ⟨⟨t182, t183, t184⟩, A800, H⟩ := H
  try dsimp only at H
  have A80 := Aside0.mk A800
  clear A800
  by_cases c81 : t182 = true
  ·
   subst c81
   rw [if_pos rfl] at H
   simp only [Option.some.injEq, Prod.mk.injEq] at H
   obtain ⟨rfl, rfl, rfl, rfl, rfl, rfl, rfl, rfl⟩ := H
   go_wp2_with (first | ((with_reducible refine gate_callee (f := 61) rfl ?_); refine zGk (some 58) Tryz.func61 (w_.calls g t156 t157 (⟨#[110, 117, 108, 108]⟩ : ByteArray) false t180 t181 w0 _ (zI79 HI0.out) (zC79 HB.out) A71.out) HK ?_; intro w82 hk; replace BK153 := zkb hk BK153 NB153_0; replace BK154 := zkb hk BK154 NB154_0; clear hk HI0 HB HK; intro HI0 HB HK) | ((with_reducible refine gate_callee (f := 61) rfl ?_); refine zGk (some 62) Tryz.func61 (w_.calls g t180 t181 (⟨#[102, 97, 108, 115, 101]⟩ : ByteArray) true t183 t184 w0 _ (zI79 HI0.out) (zC79 HB.out) A80.out) HK ?_; intro w83 hk; replace BK153 := zkb hk BK153 NB153_0; replace BK154 := zkb hk BK154 NB154_0; clear hk HI0 HB HK; intro HI0 HB HK; have hnb84 := NB154_153.out; have hnc84 := NB153_154.out; have hnb85 := NB154_0.out; have hnc85 := NB0_154.out; have hz86 := zc5 BK154.out; obtain ⟨HGz87, hgz87⟩ := HI0.out; have hz87 := zc2 HGz87; clear HGz87 hgz87; have hnb88 := NB153_0.out; have hnc88 := NB0_153.out; have hz89 := zc5 BK153.out))
   refine bodyPost_ret (results_ct rfl _ _ gb153 27 #[.int .i64 1, .int .i64 s0_1, .int .i64 t184, .slice none 0 0, .slice none 0 0] (0, 0) _ rfl (by (repeat refine zb ?_); refine blk_put (cs := #[.int .i64 1, .int .i64 s0_1, .int .i64 t184, .slice none 0 0, .slice none 0 0]) ?_ 4 _ rfl; (repeat refine zb ?_); refine blk_put (cs := #[.int .i64 1, .int .i64 s0_1, .int .i64 t184, .slice none 0 0, .slice none 0 0]) ?_ 3 _ rfl; (repeat refine zb ?_); refine blk_put (cs := #[.int .i64 1, .int .i64 s0_1, .int .i64 0, .slice none 0 0, .slice none 0 0]) ?_ 2 _ rfl; (repeat refine zb ?_); refine blk_put (cs := #[.int .i64 1, .int .i64 0, .int .i64 0, .slice none 0 0, .slice none 0 0]) ?_ 1 _ rfl; (repeat refine zb ?_); refine blk_put (cs := #[.int .i64 0, .int .i64 0, .int .i64 0, .slice none 0 0, .slice none 0 0]) ?_ 0 _ rfl; (repeat refine zb ?_); refine blk_far ?_ NB153_154.out _; (repeat refine zb ?_); refine blk_far ?_ NB153_154.out _; (repeat refine zb ?_); exact BK153.out) Tryz.underlying27 rfl (by kernel_rfl)) rfl ?_
   exact ⟨_, _, zX, zN, zN, zI79 HI0.out, zC79 HB.out, zK HK.out⟩
  replace c81 := Bool.eq_false_iff.mpr c81
  subst c81
  rw [if_neg Bool.false_ne_true] at H
  replace H := Option.bind_eq_some_iff.mp H
  obtain ⟨⟨t185, t186, t187⟩, A900, H⟩ := H
  try dsimp only at H
  have A90 := Aside0.mk A900
  clear A900
  by_cases c91 : t185 = true
  ·
   subst c91
   rw [if_pos rfl] at H
   simp only [Option.some.injEq, Prod.mk.injEq] at H
   obtain ⟨rfl, rfl, rfl, rfl, rfl, rfl, rfl, rfl⟩ := H
   go_wp2_with (first | ((with_reducible refine gate_callee (f := 61) rfl ?_); refine zGk (some 58) Tryz.func61 (w_.calls g t156 t157 (⟨#[110, 117, 108, 108]⟩ : ByteArray) false t180 t181 w0 _ (zI79 HI0.out) (zC79 HB.out) A71.out) HK ?_; intro w92 hk; replace BK153 := zkb hk BK153 NB153_0; replace BK154 := zkb hk BK154 NB154_0; clear hk HI0 HB HK; intro HI0 HB HK) | ((with_reducible refine gate_callee (f := 61) rfl ?_); refine zGk (some 62) Tryz.func61 (w_.calls g t180 t181 (⟨#[102, 97, 108, 115, 101]⟩ : ByteArray) false t183 t184 w0 _ (zI79 HI0.out) (zC79 HB.out) A80.out) HK ?_; intro w93 hk; replace BK153 := zkb hk BK153 NB153_0; replace BK154 := zkb hk BK154 NB154_0; clear hk HI0 HB HK; intro HI0 HB HK) | ((with_reducible refine gate_callee (f := 61) rfl ?_); refine zGk (some 66) Tryz.func61 (w_.calls g t183 t184 (⟨#[116, 114, 117, 101]⟩ : ByteArray) true t186 t187 w0 _ (zI79 HI0.out) (zC79 HB.out) A90.out) HK ?_; intro w94 hk; replace BK153 := zkb hk BK153 NB153_0; replace BK154 := zkb hk BK154 NB154_0; clear hk HI0 HB HK; intro HI0 HB HK; have hnb95 := NB154_153.out; have hnc95 := NB153_154.out; have hnb96 := NB154_0.out; have hnc96 := NB0_154.out; have hz97 := zc5 BK154.out; obtain ⟨HGz98, hgz98⟩ := HI0.out; have hz98 := zc2 HGz98; clear HGz98 hgz98; have hnb99 := NB153_0.out; have hnc99 := NB0_153.out; have hz100 := zc5 BK153.out))
   refine bodyPost_ret (results_ct rfl _ _ gb153 27 #[.int .i64 2, .int .i64 s0_1, .int .i64 t187, .slice none 0 0, .slice none 0 0] (0, 0) _ rfl (by (repeat refine zb ?_); refine blk_put (cs := #[.int .i64 2, .int .i64 s0_1, .int .i64 t187, .slice none 0 0, .slice none 0 0]) ?_ 4 _ rfl; (repeat refine zb ?_); refine blk_put (cs := #[.int .i64 2, .int .i64 s0_1, .int .i64 t187, .slice none 0 0, .slice none 0 0]) ?_ 3 _ rfl; (repeat refine zb ?_); refine blk_put (cs := #[.int .i64 2, .int .i64 s0_1, .int .i64 0, .slice none 0 0, .slice none 0 0]) ?_ 2 _ rfl; (repeat refine zb ?_); refine blk_put (cs := #[.int .i64 2, .int .i64 0, .int .i64 0, .slice none 0 0, .slice none 0 0]) ?_ 1 _ rfl; (repeat refine zb ?_); refine blk_put (cs := #[.int .i64 0, .int .i64 0, .int .i64 0, .slice none 0 0, .slice none 0 0]) ?_ 0 _ rfl; (repeat refine zb ?_); refine blk_far ?_ NB153_154.out _; (repeat refine zb ?_); refine blk_far ?_ NB153_154.out _; (repeat refine zb ?_); exact BK153.out) Tryz.underlying27 rfl (by kernel_rfl)) rfl ?_
   exact ⟨_, _, zX, zN, zN, zI79 HI0.out, zC79 HB.out, zK HK.out⟩
  replace c91 := Bool.eq_false_iff.mpr c91
  subst c91
  rw [if_neg Bool.false_ne_true] at H
  simp only [Option.some.injEq, Prod.mk.injEq] at H
  obtain ⟨rfl, rfl, rfl, rfl, rfl, rfl, rfl, rfl⟩ := H
  go_wp2_with (first | ((with_reducible refine gate_callee (f := 61) rfl ?_); refine zGk (some 58) Tryz.func61 (w_.calls g t156 t157 (⟨#[110, 117, 108, 108]⟩ : ByteArray) false t180 t181 w0 _ (zI79 HI0.out) (zC79 HB.out) A71.out) HK ?_; intro w101 hk; replace BK153 := zkb hk BK153 NB153_0; replace BK154 := zkb hk BK154 NB154_0; clear hk HI0 HB HK; intro HI0 HB HK) | ((with_reducible refine gate_callee (f := 61) rfl ?_); refine zGk (some 62) Tryz.func61 (w_.calls g t180 t181 (⟨#[102, 97, 108, 115, 101]⟩ : ByteArray) false t183 t184 w0 _ (zI79 HI0.out) (zC79 HB.out) A80.out) HK ?_; intro w102 hk; replace BK153 := zkb hk BK153 NB153_0; replace BK154 := zkb hk BK154 NB154_0; clear hk HI0 HB HK; intro HI0 HB HK) | ((with_reducible refine gate_callee (f := 61) rfl ?_); refine zGk (some 66) Tryz.func61 (w_.calls g t183 t184 (⟨#[116, 114, 117, 101]⟩ : ByteArray) false t186 t187 w0 _ (zI79 HI0.out) (zC79 HB.out) A90.out) HK ?_; intro w103 hk; replace BK153 := zkb hk BK153 NB153_0; replace BK154 := zkb hk BK154 NB154_0; clear hk HI0 HB HK; intro HI0 HB HK; obtain ⟨HGz104, hgz104⟩ := HI0.out; have hz104 := zc2 HGz104; clear HGz104 hgz104; have hnb105 := NB154_153.out; have hnc105 := NB153_154.out; have hnb106 := NB154_0.out; have hnc106 := NB0_154.out; have hz107 := zc5 BK154.out; have hnb108 := NB153_0.out; have hnc108 := NB0_153.out; have hz109 := zc5 BK153.out))
  refine bodyPost_ret (results_ct rfl _ _ gb153 27 #[.int .i64 0, .int .i64 s0_1, .int .i64 t187, .slice none 0 0, .slice none 0 0] (0, 0) _ rfl (by (repeat refine zb ?_); refine blk_put (cs := #[.int .i64 0, .int .i64 s0_1, .int .i64 t187, .slice none 0 0, .slice none 0 0]) ?_ 4 _ rfl; (repeat refine zb ?_); refine blk_put (cs := #[.int .i64 0, .int .i64 s0_1, .int .i64 t187, .slice none 0 0, .slice none 0 0]) ?_ 3 _ rfl; (repeat refine zb ?_); refine blk_put (cs := #[.int .i64 0, .int .i64 s0_1, .int .i64 0, .slice none 0 0, .slice none 0 0]) ?_ 2 _ rfl; (repeat refine zb ?_); refine blk_put (cs := #[.int .i64 0, .int .i64 0, .int .i64 0, .slice none 0 0, .slice none 0 0]) ?_ 1 _ rfl; (repeat refine zb ?_); refine blk_put (cs := #[.int .i64 0, .int .i64 0, .int .i64 0, .slice none 0 0, .slice none 0 0]) ?_ 0 _ rfl; (repeat refine zb ?_); refine blk_far ?_ NB153_154.out _; (repeat refine zb ?_); exact BK153.out) Tryz.underlying27 rfl (by kernel_rfl)) rfl ?_
  exact ⟨_, _, zX, zN, zN, zI79 HI0.out, zC79 HB.out, zK HK.out⟩
 all_goals go_wp2_with (first | ((with_reducible refine gate_dst (N := 2) rfl ?_); refine zbo (N := 2) (cs := #[.int .i64 0, .int .i64 0, .int .i64 0, .slice none 0 0, .slice none 0 0]) (t := 27) ?_; intro gb153 hg w5 hbox hb; replace HB := Aside0.mk (below_step (zC79 HB.out) hb); have BK153 := Aside0.mk (hbox); have GW153 := Aside0.mk ((by rw [hg]; exact (keep_size (w := w) (g := g) (row := none) (zK HK.out)) : w.heap.size ≤ gb153)); have GE153 := Aside0.mk ((Nat.le_trans HW0.out (by rw [hg]; exact (keep_size (w := w) (g := g) (row := none) (zK HK.out)) : w.heap.size ≤ gb153) : w0.heap.size ≤ gb153)); replace HK := Aside0.mk (KeepBut.trans (zK HK.out) (KeepBut.of_below hb g none) (.inl rfl)); have NB0_153 := Aside0.mk ((by rw [hg]; exact Nat.ne_of_lt (IsS79.lt (show IsS79 w0 _ g s0_0 s0_1 from zI79 HI0.out)) : g ≠ gb153)); have NB153_0 := Aside0.mk ((by rw [hg]; exact Nat.ne_of_gt (IsS79.lt (show IsS79 w0 _ g s0_0 s0_1 from zI79 HI0.out)) : gb153 ≠ g)); replace HI0 := Aside0.mk (IsS79.below (zI79 HI0.out) hb); clear hb hbox hg; obtain ⟨HGz6, hgz6⟩ := HI0.out; have hz6 := zc2 HGz6; clear HGz6 hgz6) | ((with_reducible refine gate_dst (N := 4) rfl ?_); refine zbo (N := 4) (cs := #[.int .i64 0, .int .i64 0, .int .i64 0, .slice none 0 0, .slice none 0 0]) (t := 27) ?_; intro gb154 hg w7 hbox hb; replace HB := Aside0.mk (below_step (zC79 HB.out) hb); have BK154 := Aside0.mk (hbox); have GW154 := Aside0.mk ((by rw [hg]; exact (keep_size (w := w) (g := g) (row := none) (zK HK.out)) : w.heap.size ≤ gb154)); have GE154 := Aside0.mk ((Nat.le_trans HW0.out (by rw [hg]; exact (keep_size (w := w) (g := g) (row := none) (zK HK.out)) : w.heap.size ≤ gb154) : w0.heap.size ≤ gb154)); replace HK := Aside0.mk (KeepBut.trans (zK HK.out) (KeepBut.of_below hb g none) (.inl rfl)); have NB153_154 := znl hg BK153; have NB154_153 := zng hg BK153; replace BK153 := zbb BK153 hb; have NB0_154 := Aside0.mk ((by rw [hg]; exact Nat.ne_of_lt (IsS79.lt (show IsS79 w0 _ g s0_0 s0_1 from zI79 HI0.out)) : g ≠ gb154)); have NB154_0 := Aside0.mk ((by rw [hg]; exact Nat.ne_of_gt (IsS79.lt (show IsS79 w0 _ g s0_0 s0_1 from zI79 HI0.out)) : gb154 ≠ g)); replace HI0 := Aside0.mk (IsS79.below (zI79 HI0.out) hb); clear hb hbox hg; have hnb8 := NB154_153.out; have hnc8 := NB153_154.out; have hnb9 := NB154_0.out; have hnc9 := NB0_154.out; have hz10 := zc5 BK154.out) | ((with_reducible refine gate_callee (f := 56) rfl ?_); refine zGk (some 13) Tryz.func56 (her_.calls g s0_0 s0_1 t155 t156 t157 w0 _ (zI79 HI0.out) (zC79 HB.out) A2.out) HK ?_; intro w11 hk; replace BK153 := Aside0.mk (KeepBut.blk hk (g' := gb153) (o := .cells #[.int .i64 0, .int .i64 0, .int .i64 0, .slice none 0 0, .slice none 0 0] 27 (0, 0)) (zbf BK153 NB153_154) NB153_0.out (by simp)); replace BK154 := Aside0.mk (KeepBut.blk hk (g' := gb154) (o := .cells #[.int .i64 0, .int .i64 s0_1, .int .i64 0, .slice none 0 0, .slice none 0 0] 27 (0, 0)) (zbp BK154) NB154_0.out (by simp)); clear hk HI0 HB HK; intro HI0 HB HK; have hz12 := zc5 BK154.out) | ((with_reducible refine gate_callee (f := 57) rfl ?_); refine goesL_ (some 20) rfl rfl Tryz.func57 (by kernel_rfl) rfl #[.pointer (some ⟨g, 0, none⟩)] rfl zM ?_; (with_reducible refine (ih_spec_reader_members k (by omega) g t156 t157 t158 t161 t164 t165 t166 w0 _ ?side1 ?side2 A4.out).mono ?_); (case side1 => exact zI79 HI0.out); (case side2 => exact zC79 HB.out); rintro e w13 ⟨v159, v162, rfl, ho0, ho1, hi, hb, hk⟩; refine ⟨_, rfl, ?_⟩; have HO160 := Aside0.mk (Kd.R_lower ho0 (keep_size (w := w) (g := g) (row := none) (zK HK.out))); have HO163 := Aside0.mk (Kd.R_lower (Kd.R_newB (Kd.R_newB ho1 (g := gb153) (o := .cells #[.int .i64 0, .int .i64 0, .int .i64 0, .slice none 0 0, .slice none 0 0] 27 (0, 0)) (zbf BK153 NB153_154)) (g := gb154) (o := .cells #[.int .i64 6, .int .i64 s0_1, .int .i64 0, .slice none 0 0, .slice none 0 0] 27 (0, 0)) (by (repeat refine zb ?_); refine blk_put (cs := #[.int .i64 0, .int .i64 s0_1, .int .i64 0, .slice none 0 0, .slice none 0 0]) ?_ 0 _ rfl; (repeat refine zb ?_); exact BK154.out)) (keep_size (w := w) (g := g) (row := none) (zK HK.out))); replace BK153 := Aside0.mk (KeepBut.blk hk (g' := gb153) (o := .cells #[.int .i64 0, .int .i64 0, .int .i64 0, .slice none 0 0, .slice none 0 0] 27 (0, 0)) (zbf BK153 NB153_154) NB153_0.out (by simp)); replace BK154 := Aside0.mk (KeepBut.blk hk (g' := gb154) (o := .cells #[.int .i64 6, .int .i64 s0_1, .int .i64 0, .slice none 0 0, .slice none 0 0] 27 (0, 0)) (by (repeat refine zb ?_); refine blk_put (cs := #[.int .i64 0, .int .i64 s0_1, .int .i64 0, .slice none 0 0, .slice none 0 0]) ?_ 0 _ rfl; (repeat refine zb ?_); exact BK154.out) NB154_0.out (by simp)); replace HK := Aside0.mk (KeepBut.trans (zK HK.out) hk (.inl rfl)); replace HB := Aside0.mk (hb); replace HI0 := Aside0.mk (hi); clear hb hk hi; (try clear ho0); (try clear ho1); obtain ⟨Ao14, co14, eo14⟩ := Kd.R_slice HO160.out; subst eo14; have hz15 := zc5 BK154.out; obtain ⟨Ao16, co16, eo16⟩ := Kd.R_slice HO163.out; subst eo16; obtain ⟨HGz17, hgz17⟩ := HI0.out; have hz17 := zc2 HGz17; clear HGz17 hgz17; have hnb18 := NB153_0.out; have hnc18 := NB0_153.out; have hz19 := zc5 BK153.out) | ((with_reducible refine gate_callee (f := 58) rfl ?_); refine goesL_ (some 32) rfl rfl Tryz.func58 (by kernel_rfl) rfl #[.pointer (some ⟨g, 0, none⟩)] rfl zM ?_; (with_reducible refine (ih_spec_reader_elements k (by omega) g t156 t157 t167 t170 t171 t172 w0 _ ?side1 ?side2 A21.out).mono ?_); (case side1 => exact zI79 HI0.out); (case side2 => exact zC79 HB.out); rintro e w30 ⟨v168, rfl, ho0, hi, hb, hk⟩; refine ⟨_, rfl, ?_⟩; have HO169 := Aside0.mk (Kd.R_lower (Kd.R_newB (Kd.R_newB ho0 (g := gb153) (o := .cells #[.int .i64 0, .int .i64 0, .int .i64 0, .slice none 0 0, .slice none 0 0] 27 (0, 0)) (zbf BK153 NB153_154)) (g := gb154) (o := .cells #[.int .i64 5, .int .i64 s0_1, .int .i64 0, .slice none 0 0, .slice none 0 0] 27 (0, 0)) (by (repeat refine zb ?_); refine blk_put (cs := #[.int .i64 0, .int .i64 s0_1, .int .i64 0, .slice none 0 0, .slice none 0 0]) ?_ 0 _ rfl; (repeat refine zb ?_); exact BK154.out)) (keep_size (w := w) (g := g) (row := none) (zK HK.out))); replace BK153 := Aside0.mk (KeepBut.blk hk (g' := gb153) (o := .cells #[.int .i64 0, .int .i64 0, .int .i64 0, .slice none 0 0, .slice none 0 0] 27 (0, 0)) (zbf BK153 NB153_154) NB153_0.out (by simp)); replace BK154 := Aside0.mk (KeepBut.blk hk (g' := gb154) (o := .cells #[.int .i64 5, .int .i64 s0_1, .int .i64 0, .slice none 0 0, .slice none 0 0] 27 (0, 0)) (by (repeat refine zb ?_); refine blk_put (cs := #[.int .i64 0, .int .i64 s0_1, .int .i64 0, .slice none 0 0, .slice none 0 0]) ?_ 0 _ rfl; (repeat refine zb ?_); exact BK154.out) NB154_0.out (by simp)); replace HK := Aside0.mk (KeepBut.trans (zK HK.out) hk (.inl rfl)); replace HB := Aside0.mk (hb); replace HI0 := Aside0.mk (hi); clear hb hk hi; (try clear ho0); obtain ⟨Ao31, co31, eo31⟩ := Kd.R_slice HO169.out; subst eo31; have hz32 := zc5 BK154.out; obtain ⟨HGz33, hgz33⟩ := HI0.out; have hz33 := zc2 HGz33; clear HGz33 hgz33; have hnb34 := NB153_0.out; have hnc34 := NB0_153.out; have hz35 := zc5 BK153.out) | ((with_reducible refine gate_callee (f := 59) rfl ?_); refine goesL_ (some 41) rfl rfl Tryz.func59 (by kernel_rfl) rfl #[.pointer (some ⟨g, 0, none⟩)] rfl zM ?_; (with_reducible refine (q_.calls k g t156 t157 t173 t174 t175 w0 _ ?side1 ?side2 A37.out).mono ?_); (case side1 => exact zI79 HI0.out); (case side2 => exact zC79 HB.out); rintro e w46 ⟨rfl, hi, hb, hk⟩; refine ⟨_, rfl, ?_⟩; replace BK153 := Aside0.mk (KeepBut.blk hk (g' := gb153) (o := .cells #[.int .i64 0, .int .i64 0, .int .i64 0, .slice none 0 0, .slice none 0 0] 27 (0, 0)) (zbf BK153 NB153_154) NB153_0.out (by simp)); replace BK154 := Aside0.mk (KeepBut.blk hk (g' := gb154) (o := .cells #[.int .i64 4, .int .i64 s0_1, .int .i64 0, .slice none 0 0, .slice none 0 0] 27 (0, 0)) (by (repeat refine zb ?_); refine blk_put (cs := #[.int .i64 0, .int .i64 s0_1, .int .i64 0, .slice none 0 0, .slice none 0 0]) ?_ 0 _ rfl; (repeat refine zb ?_); exact BK154.out) NB154_0.out (by simp)); replace HK := Aside0.mk (KeepBut.trans (zK HK.out) hk (.inl rfl)); replace HB := Aside0.mk (hb); replace HI0 := Aside0.mk (hi); clear hb hk hi; obtain ⟨HGz47, hgz47⟩ := HI0.out; have hz47 := zc2 HGz47; clear HGz47 hgz47; have hz48 := zc5 BK154.out; have hnb49 := NB153_0.out; have hnc49 := NB0_153.out; have hz50 := zc5 BK153.out))
 ·
  refine bodyPost_ret (results_ct rfl _ _ gb153 27 #[.int .i64 6, .int .i64 s0_1, .int .i64 t166, .slice Ao14 t158.length co14, .slice Ao16 t161.length co16] (0, 0) _ rfl (by (repeat refine zb ?_); refine blk_put (cs := #[.int .i64 6, .int .i64 s0_1, .int .i64 t166, .slice Ao14 t158.length co14, .slice none 0 0]) ?_ 4 _ rfl; (repeat refine zb ?_); refine blk_put (cs := #[.int .i64 6, .int .i64 s0_1, .int .i64 t166, .slice none 0 0, .slice none 0 0]) ?_ 3 _ rfl; (repeat refine zb ?_); refine blk_put (cs := #[.int .i64 6, .int .i64 s0_1, .int .i64 0, .slice none 0 0, .slice none 0 0]) ?_ 2 _ rfl; (repeat refine zb ?_); refine blk_put (cs := #[.int .i64 6, .int .i64 0, .int .i64 0, .slice none 0 0, .slice none 0 0]) ?_ 1 _ rfl; (repeat refine zb ?_); refine blk_put (cs := #[.int .i64 0, .int .i64 0, .int .i64 0, .slice none 0 0, .slice none 0 0]) ?_ 0 _ rfl; (repeat refine zb ?_); refine blk_far ?_ NB153_154.out _; (repeat refine zb ?_); refine blk_far ?_ NB153_154.out _; (repeat refine zb ?_); refine blk_far ?_ NB153_154.out _; (repeat refine zb ?_); exact BK153.out) Tryz.underlying27 rfl (by kernel_rfl)) rfl ?_
  exact ⟨_, _, zX, by (with_reducible repeat (first | apply Kd.R_alloc | apply Kd.R_drewN | apply Kd.R_drew)); exact Kd.R_mono (Kd.R_far (p := ⟨gb153, 4, none⟩) (Kd.R_far (p := ⟨gb153, 3, none⟩) (Kd.R_far (p := ⟨gb153, 2, none⟩) (Kd.R_far (p := ⟨gb153, 1, none⟩) (Kd.R_far (p := ⟨gb153, 0, none⟩) (Kd.R_far (p := ⟨gb154, 2, none⟩) (Kd.R_far (p := ⟨gb154, 4, none⟩) (Kd.R_far (p := ⟨gb154, 3, none⟩) (Kd.R_types (Kd.R_types HO160.out BK154.out (by decide)) BK153.out (by decide)) (fun _ hk => hk.1.2) (.slice Ao14 t158.length co14)) (fun _ hk => hk.1.2) (.slice Ao16 t161.length co16)) (fun _ hk => hk.1.2) (.int .i64 t166)) (fun _ hk => hk.2) (.int .i64 6)) (fun _ hk => hk.2) (.int .i64 s0_1)) (fun _ hk => hk.2) (.int .i64 t166)) (fun _ hk => hk.2) (.slice Ao14 t158.length co14)) (fun _ hk => hk.2) (.slice Ao16 t161.length co16)) (fun _ hk => trivial), by (with_reducible repeat (first | apply Kd.R_alloc | apply Kd.R_drewN | apply Kd.R_drew)); exact Kd.R_mono (Kd.R_far (p := ⟨gb153, 4, none⟩) (Kd.R_far (p := ⟨gb153, 3, none⟩) (Kd.R_far (p := ⟨gb153, 2, none⟩) (Kd.R_far (p := ⟨gb153, 1, none⟩) (Kd.R_far (p := ⟨gb153, 0, none⟩) (Kd.R_far (p := ⟨gb154, 2, none⟩) (Kd.R_far (p := ⟨gb154, 4, none⟩) (Kd.R_far (p := ⟨gb154, 3, none⟩) (Kd.R_mono (Kd.R_mono HO163.out (fun k_ hk => (⟨hk, hk.2⟩ : _ ∧ k_ ≠ gb154))) (fun k_ hk => (⟨hk, hk.1.1.2⟩ : _ ∧ k_ ≠ gb153))) (fun _ hk => hk.1.2) (.slice Ao14 t158.length co14)) (fun _ hk => hk.1.2) (.slice Ao16 t161.length co16)) (fun _ hk => hk.1.2) (.int .i64 t166)) (fun _ hk => hk.2) (.int .i64 6)) (fun _ hk => hk.2) (.int .i64 s0_1)) (fun _ hk => hk.2) (.int .i64 t166)) (fun _ hk => hk.2) (.slice Ao14 t158.length co14)) (fun _ hk => hk.2) (.slice Ao16 t161.length co16)) (fun _ hk => hk.1.1.1.1), zI79 HI0.out, zC79 HB.out, zK HK.out⟩
 ·
  refine bodyPost_ret (results_ct rfl _ _ gb153 27 #[.int .i64 5, .int .i64 s0_1, .int .i64 t172, .slice none 0 0, .slice Ao31 t167.length co31] (0, 0) _ rfl (by (repeat refine zb ?_); refine blk_put (cs := #[.int .i64 5, .int .i64 s0_1, .int .i64 t172, .slice none 0 0, .slice none 0 0]) ?_ 4 _ rfl; (repeat refine zb ?_); refine blk_put (cs := #[.int .i64 5, .int .i64 s0_1, .int .i64 t172, .slice none 0 0, .slice none 0 0]) ?_ 3 _ rfl; (repeat refine zb ?_); refine blk_put (cs := #[.int .i64 5, .int .i64 s0_1, .int .i64 0, .slice none 0 0, .slice none 0 0]) ?_ 2 _ rfl; (repeat refine zb ?_); refine blk_put (cs := #[.int .i64 5, .int .i64 0, .int .i64 0, .slice none 0 0, .slice none 0 0]) ?_ 1 _ rfl; (repeat refine zb ?_); refine blk_put (cs := #[.int .i64 0, .int .i64 0, .int .i64 0, .slice none 0 0, .slice none 0 0]) ?_ 0 _ rfl; (repeat refine zb ?_); refine blk_far ?_ NB153_154.out _; (repeat refine zb ?_); refine blk_far ?_ NB153_154.out _; (repeat refine zb ?_); exact BK153.out) Tryz.underlying27 rfl (by kernel_rfl)) rfl ?_
  exact ⟨_, _, zX, zN, by (with_reducible repeat (first | apply Kd.R_alloc | apply Kd.R_drewN | apply Kd.R_drew)); exact Kd.R_mono (Kd.R_far (p := ⟨gb153, 4, none⟩) (Kd.R_far (p := ⟨gb153, 3, none⟩) (Kd.R_far (p := ⟨gb153, 2, none⟩) (Kd.R_far (p := ⟨gb153, 1, none⟩) (Kd.R_far (p := ⟨gb153, 0, none⟩) (Kd.R_far (p := ⟨gb154, 2, none⟩) (Kd.R_far (p := ⟨gb154, 4, none⟩) (Kd.R_mono (Kd.R_mono HO169.out (fun k_ hk => (⟨hk, hk.2⟩ : _ ∧ k_ ≠ gb154))) (fun k_ hk => (⟨hk, hk.1.1.2⟩ : _ ∧ k_ ≠ gb153))) (fun _ hk => hk.1.2) (.slice Ao31 t167.length co31)) (fun _ hk => hk.1.2) (.int .i64 t172)) (fun _ hk => hk.2) (.int .i64 5)) (fun _ hk => hk.2) (.int .i64 s0_1)) (fun _ hk => hk.2) (.int .i64 t172)) (fun _ hk => hk.2) (.slice none 0 0)) (fun _ hk => hk.2) (.slice Ao31 t167.length co31)) (fun _ hk => (by simp [Value.ownBlock])), zI79 HI0.out, zC79 HB.out, zK HK.out⟩
 ·
  refine bodyPost_ret (results_ct rfl _ _ gb153 27 #[.int .i64 4, .int .i64 s0_1, .int .i64 t175, .slice none 0 0, .slice none 0 0] (0, 0) _ rfl (by (repeat refine zb ?_); refine blk_put (cs := #[.int .i64 4, .int .i64 s0_1, .int .i64 t175, .slice none 0 0, .slice none 0 0]) ?_ 4 _ rfl; (repeat refine zb ?_); refine blk_put (cs := #[.int .i64 4, .int .i64 s0_1, .int .i64 t175, .slice none 0 0, .slice none 0 0]) ?_ 3 _ rfl; (repeat refine zb ?_); refine blk_put (cs := #[.int .i64 4, .int .i64 s0_1, .int .i64 0, .slice none 0 0, .slice none 0 0]) ?_ 2 _ rfl; (repeat refine zb ?_); refine blk_put (cs := #[.int .i64 4, .int .i64 0, .int .i64 0, .slice none 0 0, .slice none 0 0]) ?_ 1 _ rfl; (repeat refine zb ?_); refine blk_put (cs := #[.int .i64 0, .int .i64 0, .int .i64 0, .slice none 0 0, .slice none 0 0]) ?_ 0 _ rfl; (repeat refine zb ?_); refine blk_far ?_ NB153_154.out _; (repeat refine zb ?_); exact BK153.out) Tryz.underlying27 rfl (by kernel_rfl)) rfl ?_
  exact ⟨_, _, zX, zN, zN, zI79 HI0.out, zC79 HB.out, zK HK.out⟩
end Go.Proofs.YtpdohioobbfncaaGreatDoor.PFnJpWildStop