-- Written by a program of this session (wip/prx) out of the print of the loaded functions.
import Derived.Test.YtmkceaepdanmiaaDoorPFnJqUintIntx0
namespace Go.Proofs.YtmkceaepdanmiaaDoor.PFnJqUintInt
open Go.RowKit Go.Proofs.YtmkceaepdanmiaaDoorW.PrintWords Go.Proofs.YtmkceaepdanmiaaDoorW.PrintLast Go.Proofs.YtmkceaepdanmiaaDoorW.PrintMore
attribute [local go_sem] max2_int min2_int max_two min_two max_three min_three max_four min_four   -- for this text's walks alone
set_option linter.unusedVariables false
set_option linter.unusedSimpArgs false

/-! ### spec_DigitsOf: function 4 -/
def spec_DigitsOf.l0 : Nat → Int → List Int → Option (ByteArray)
  | 0, _, _ => none
  | k + 1, x0, x3 => (some (([(IntKind.u64.wrap (48 + (Int.tmod x0 10))) % 256] : List Int) : List Int)).bind fun y101 => (if y101.length + x3.length < 140737488355328 then ((some (y101 ++ x3 : List Int)).bind fun y104 => (if (IntKind.u64.wrap (Int.tdiv x0 10)) = 0 then (some (strOfNums y104)) else (spec_DigitsOf.l0 k (IntKind.u64.wrap (Int.tdiv x0 10)) y104))) else (none))
def spec_DigitsOf.f (k : Nat) (a0 : Int) : Option (ByteArray) := spec_DigitsOf.l0 k a0 ([] : List Int)
theorem spec_DigitsOf.mono_l : ∀ k, (∀ y0 y1, LeO (spec_DigitsOf.l0 k y0 y1) (spec_DigitsOf.l0 (k + 1) y0 y1))
  | 0 => fun _ _ r h => by simp [spec_DigitsOf.l0] at h
  | k + 1 => by
    have ih0 := spec_DigitsOf.mono_l k
    · intro y0 y1
      unfold spec_DigitsOf.l0
      repeat' first
      | (with_reducible exact ih0 _ _)
      | (with_reducible exact LeO.refl _)
      | (with_reducible exact LeO.none _)
      | (with_reducible refine LeO.ite ?_ ?_)
      | (with_reducible refine LeO.bind ?_ (fun _ => ?_))
      | exact ih0 _ _
      | exact LeO.none _
      | refine LeO.ite ?_ ?_
      | refine LeO.bind ?_ (fun _ => ?_)
theorem spec_DigitsOf.mono : ∀ a0 k, LeO (spec_DigitsOf.f k a0) (spec_DigitsOf.f (k + 1) a0) := by
  intro a0 k
  have ih0 := spec_DigitsOf.mono_l k
  unfold spec_DigitsOf.f
  repeat' first
      | (with_reducible exact ih0 _ _)
      | (with_reducible exact LeO.refl _)
      | (with_reducible exact LeO.none _)
      | (with_reducible refine LeO.ite ?_ ?_)
      | (with_reducible refine LeO.bind ?_ (fun _ => ?_))
      | exact ih0 _ _
      | exact LeO.none _
      | refine LeO.ite ?_ ?_
      | refine LeO.bind ?_ (fun _ => ?_)
set_option maxHeartbeats 8000000 in
set_option maxRecDepth 100000 in
theorem spec_DigitsOf.calls (k : Nat) (a0 : Int) (r : ByteArray) (w : World) (h : spec_DigitsOf.f k a0 = some r) :
    Calls Tryd.prog 4 #[.int .u64 a0] w fun e w' => e = .returned (.string r) ∧ Below w.heap.size w w' := by
 have HB := Aside0.mk (Below.refl w.heap.size w)
 have H : (spec_DigitsOf.l0 k a0 ([] : List Int)) = some r := h
 clear h
 have H' := Aside0.mk H
 clear H
 go_enter Tryd.func4, Tryd.ntmps4
 go_wp2
 try simp only [Act.put, List.setIfInBounds_toArray, List.set_cons_succ, List.set_cons_zero]
 go_loopg [0, 3] k (fun kq v0 v3 w' => ∃ (x0_1 : Int) (x3_1 : List Int), v0 = .int .u64 x0_1 ∧ Aside0 (spec_DigitsOf.l0 kq x0_1 x3_1 = some r) ∧ Aside0 (kq ≤ k) ∧ Aside0 (Kd.R (Kd.int .u8) 5 w' w.heap.size (fun _ => True) v3 x3_1) ∧ Aside0 (Below w.heap.size w w'))
 case atStart => exact ⟨(a0), (([] : List Int)), (by first | rfl | (simp; done) | (simp [nil_ne_, nil_eq_]; done) | (simp [*]; done)), H', ⟨Nat.le_refl _⟩, ⟨by first | exact Kd.R_nil _ _ _ _ _ | exact Kd.N_nil _ _ _ _ _ | exact Kd.V_nil _ _ _ _ _ | exact Kd.Q_nil _ _ _ _ _ | exact Kd.S_nil _ _ _ _ _⟩, ⟨by repeat (first | (with_reducible first | exact HB.out | apply below_alloc | apply pw_below_drewN | apply below_drew1) | exact HB.out)⟩⟩
 case round =>
  clear H'
  obtain ⟨x0_1, x3_1, rfl, HA, HK1, HO_3, HB⟩ := hrel
  cases gk with
  | zero => exact absurd HA.out (by simp [spec_DigitsOf.l0])
  | succ k1 =>
   have H := HA.out
   clear HA
   simp only [spec_DigitsOf.l0] at H
   obtain ⟨y101, hy101⟩ : ∃ y_ : List Int, y_ = (([(IntKind.u64.wrap (48 + (Int.tmod x0_1 10))) % 256] : List Int)) := ⟨_, rfl⟩
   replace H : (if y101.length + x3_1.length < 140737488355328 then ((some (y101 ++ x3_1 : List Int)).bind fun y104 => (if (IntKind.u64.wrap (Int.tdiv x0_1 10)) = 0 then (some (strOfNums y104)) else (spec_DigitsOf.l0 k1 (IntKind.u64.wrap (Int.tdiv x0_1 10)) y104))) else (none)) = some r := by first | (rw [hy101]; with_reducible exact H) | (have H2_ := (Option.bind_some _ _).symm.trans H; rw [hy101]; with_reducible exact H2_) | (have H2_ := (Option.bind_some _ _).symm.trans H; with_reducible exact H2_) | with_reducible exact H | (rw [hy101]; exact H) | exact H
   have Ny101 := Aside0.mk hy101
   clear hy101
   by_cases c2 : y101.length + x3_1.length < 140737488355328
   ·
    rw [if_pos c2] at H
    have LMc2 := Aside0.mk c2
    clear c2
    obtain ⟨y104, hy104⟩ : ∃ y_ : List Int, y_ = (y101 ++ x3_1) := ⟨_, rfl⟩
    replace H : (if (IntKind.u64.wrap (Int.tdiv x0_1 10)) = 0 then (some (strOfNums y104)) else (spec_DigitsOf.l0 k1 (IntKind.u64.wrap (Int.tdiv x0_1 10)) y104)) = some r := by first | (rw [hy104]; with_reducible exact H) | (have H2_ := (Option.bind_some _ _).symm.trans H; rw [hy104]; with_reducible exact H2_) | (have H2_ := (Option.bind_some _ _).symm.trans H; with_reducible exact H2_) | with_reducible exact H | (rw [hy104]; exact H) | exact H
    have Ny104 := Aside0.mk hy104
    clear hy104
    by_cases c3 : (IntKind.u64.wrap (Int.tdiv x0_1 10)) = 0
    ·
     rw [if_pos c3] at H
     have c3b0 : ((IntKind.u64.wrap (Int.tdiv x0_1 10)) == 0) = true := beq_iff_eq.mpr c3
     have c3b1 : ((IntKind.u64.wrap (Int.tdiv x0_1 10)) != 0) = false := bne_eq_false_iff_eq.mpr c3
     clear c3
     obtain rfl := Option.some.inj H
     go_wp2_with (first | ((with_reducible refine gate_dst (N := 8) rfl ?_); refine Kd.R_lit (Kd.int .u8) _ 5 ?hg (N := 8) ?hd (xs := ([(IntKind.u64.wrap (48 + (Int.tmod x0_1 10))) % 256] : List Int)) (inner := [.int .u8 ((IntKind.u64.wrap (48 + (Int.tmod x0_1 10))) % 256)]) (ok := fun _ => True) (okp := fun _ => True) ?hr ?hp (fun _ hk => hk) trivial (Below.refl _ _) (Nat.le_refl _) (by simp) ?_; (case hd => rfl); (case hg => rfl); (case hr => first | (go_simp; done) | (go_simp; rfl)); (case hp => exact (Reps.one (show Kd.M (Kd.int .u8) _ _ _ ((IntKind.u64.wrap (48 + (Int.tmod x0_1 10))) % 256) [.int .u8 ((IntKind.u64.wrap (48 + (Int.tmod x0_1 10))) % 256)] from rfl) (Reps.none _ _))); intro v102 w4 ho5 hb hg_ hnew_; clear hg_ hnew_; (first | rw [← Ny101.out] at ho5 | (simp only [Int.reduceToNat] at ho5; rw [← Ny101.out] at ho5)); have n0_ := Aside0.mk (Kd.R_elder' (by (with_reducible repeat (first | apply Kd.R_alloc | apply Kd.R_drewN | apply Kd.R_drew)); exact HO_3.out) (Kd.R_base ho5) hb); have n1_ := Aside0.mk (Kd.R_lower (Kd.R_new' ho5 (Kd.R_lt (by (with_reducible repeat (first | apply Kd.R_alloc | apply Kd.R_drewN | apply Kd.R_drew)); exact HO_3.out))) (below_size (by repeat (first | (with_reducible first | exact HB.out | apply below_alloc | apply pw_below_drewN | apply below_drew1) | exact HB.out)))); have n2_ := Aside0.mk (below_step (by repeat (first | (with_reducible first | exact HB.out | apply below_alloc | apply pw_below_drewN | apply below_drew1) | exact HB.out)) hb); clear HO_3; clear HB; have HO_3 := n0_; have HO103 := n1_; have HB := n2_; clear n0_ n1_ n2_; clear hb ho5; obtain ⟨Ao7, co7, eo7⟩ := Kd.R_slice HO_3.out; subst eo7) | ((with_reducible refine gate_builtin (b := .append) (xs := #[.tmp 8, .tmp 9]) rfl ?_); at_builtin; refine Kd.R_append_rows (Kd.int .u8) (w0 := w) w.heap.size rfl (.tmp 8) (.tmp 9) 30 5 (.int .u8 0) 1 rfl Tryd.underlying30 info5 rfl (by decide) (by omega) v102 y101 x3_1 _ _ _ (fun k_ => some k_ ≠ (.slice Ao7 x3_1.length co7 : Value).ownBlock) (fun _ => False) rfl rfl ?aO ?aR (fun _ _ h => h) (fun _ h => h.elim) ?aF ?aB ?aS ?aL ?_; (case aR => repeat (first | exact (Kd.R_reads' HO_3.out).2.2 | (with_reducible refine Kd.C_alloc ?_ _) | (with_reducible refine Kd.C_drewN ?_ _) | (with_reducible refine Kd.C_drew ?_))); (case aB => exact (by repeat (first | (with_reducible first | exact HB.out | apply below_alloc | apply pw_below_drewN | apply below_drew1) | exact HB.out))); (case aF => exact (fun k_ hk => Kd.fresh' (Kd.R_lt (by (with_reducible repeat (first | apply Kd.R_alloc | apply Kd.R_drewN | apply Kd.R_drew)); exact HO_3.out)) k_ hk)); (case aO => exact (by (with_reducible repeat (first | apply Kd.R_alloc | apply Kd.R_drewN | apply Kd.R_drew)); exact Kd.R_mono HO103.out (fun _ hk => hk.2))); (case aS => exact (below_size (by repeat (first | (with_reducible first | exact HB.out | apply below_alloc | apply pw_below_drewN | apply below_drew1) | exact HB.out)))); (case aL => have := LMc2.out; omega); intro v105 w6 ho hb hg hat; rw [← Ny104.out] at ho; have n0_ := Aside0.mk (Kd.R_after (ok := (fun _ => True)) (by (with_reducible repeat (first | apply Kd.R_alloc | apply Kd.R_drewN | apply Kd.R_drew)); exact HO_3.out) hg hat); have n1_ := Aside0.mk (hb); have n2_ := Aside0.mk (ho); clear HO_3; clear HB; clear HO103; have HO_3 := n0_; have HB := n1_; have HO106 := n2_; clear n0_ n1_ n2_; clear ho hb hg hat; have hcv8 := own_string (P := Tryd.prog) Tryd.underlying30 Tryd.underlying5 Tryd.underlying9 (Kd.own_of_R HO106.out)))
     go_ret
     exact ⟨by first | rfl | (simp [errX_none, errX_some] <;> rfl) | (simp [*, errX_none, errX_some] <;> rfl), by repeat (first | (with_reducible first | exact HB.out | apply below_alloc | apply pw_below_drewN | apply below_drew1) | exact HB.out)⟩
    ·
     rw [if_neg c3] at H
     have c3b0 : ((IntKind.u64.wrap (Int.tdiv x0_1 10)) == 0) = false := beq_eq_false_iff_ne.mpr c3
     have c3b1 : ((IntKind.u64.wrap (Int.tdiv x0_1 10)) != 0) = true := bne_iff_ne.mpr c3
     have H' := Aside0.mk H
     clear H
     go_wp2_with (first | ((with_reducible refine gate_dst (N := 8) rfl ?_); refine Kd.R_lit (Kd.int .u8) _ 5 ?hg (N := 8) ?hd (xs := ([(IntKind.u64.wrap (48 + (Int.tmod x0_1 10))) % 256] : List Int)) (inner := [.int .u8 ((IntKind.u64.wrap (48 + (Int.tmod x0_1 10))) % 256)]) (ok := fun _ => True) (okp := fun _ => True) ?hr ?hp (fun _ hk => hk) trivial (Below.refl _ _) (Nat.le_refl _) (by simp) ?_; (case hd => rfl); (case hg => rfl); (case hr => first | (go_simp; done) | (go_simp; rfl)); (case hp => exact (Reps.one (show Kd.M (Kd.int .u8) _ _ _ ((IntKind.u64.wrap (48 + (Int.tmod x0_1 10))) % 256) [.int .u8 ((IntKind.u64.wrap (48 + (Int.tmod x0_1 10))) % 256)] from rfl) (Reps.none _ _))); intro v102 w9 ho10 hb hg_ hnew_; clear hg_ hnew_; (first | rw [← Ny101.out] at ho10 | (simp only [Int.reduceToNat] at ho10; rw [← Ny101.out] at ho10)); have n0_ := Aside0.mk (Kd.R_elder' (by (with_reducible repeat (first | apply Kd.R_alloc | apply Kd.R_drewN | apply Kd.R_drew)); exact HO_3.out) (Kd.R_base ho10) hb); have n1_ := Aside0.mk (Kd.R_lower (Kd.R_new' ho10 (Kd.R_lt (by (with_reducible repeat (first | apply Kd.R_alloc | apply Kd.R_drewN | apply Kd.R_drew)); exact HO_3.out))) (below_size (by repeat (first | (with_reducible first | exact HB.out | apply below_alloc | apply pw_below_drewN | apply below_drew1) | exact HB.out)))); have n2_ := Aside0.mk (below_step (by repeat (first | (with_reducible first | exact HB.out | apply below_alloc | apply pw_below_drewN | apply below_drew1) | exact HB.out)) hb); clear HO_3; clear HB; have HO_3 := n0_; have HO103 := n1_; have HB := n2_; clear n0_ n1_ n2_; clear hb ho10; obtain ⟨Ao12, co12, eo12⟩ := Kd.R_slice HO_3.out; subst eo12) | ((with_reducible refine gate_builtin (b := .append) (xs := #[.tmp 8, .tmp 9]) rfl ?_); at_builtin; refine Kd.R_append_rows (Kd.int .u8) (w0 := w) w.heap.size rfl (.tmp 8) (.tmp 9) 30 5 (.int .u8 0) 1 rfl Tryd.underlying30 info5 rfl (by decide) (by omega) v102 y101 x3_1 _ _ _ (fun k_ => some k_ ≠ (.slice Ao12 x3_1.length co12 : Value).ownBlock) (fun _ => False) rfl rfl ?aO ?aR (fun _ _ h => h) (fun _ h => h.elim) ?aF ?aB ?aS ?aL ?_; (case aR => repeat (first | exact (Kd.R_reads' HO_3.out).2.2 | (with_reducible refine Kd.C_alloc ?_ _) | (with_reducible refine Kd.C_drewN ?_ _) | (with_reducible refine Kd.C_drew ?_))); (case aB => exact (by repeat (first | (with_reducible first | exact HB.out | apply below_alloc | apply pw_below_drewN | apply below_drew1) | exact HB.out))); (case aF => exact (fun k_ hk => Kd.fresh' (Kd.R_lt (by (with_reducible repeat (first | apply Kd.R_alloc | apply Kd.R_drewN | apply Kd.R_drew)); exact HO_3.out)) k_ hk)); (case aO => exact (by (with_reducible repeat (first | apply Kd.R_alloc | apply Kd.R_drewN | apply Kd.R_drew)); exact Kd.R_mono HO103.out (fun _ hk => hk.2))); (case aS => exact (below_size (by repeat (first | (with_reducible first | exact HB.out | apply below_alloc | apply pw_below_drewN | apply below_drew1) | exact HB.out)))); (case aL => have := LMc2.out; omega); intro v105 w11 ho hb hg hat; rw [← Ny104.out] at ho; have n0_ := Aside0.mk (Kd.R_after (ok := (fun _ => True)) (by (with_reducible repeat (first | apply Kd.R_alloc | apply Kd.R_drewN | apply Kd.R_drew)); exact HO_3.out) hg hat); have n1_ := Aside0.mk (hb); have n2_ := Aside0.mk (ho); clear HO_3; clear HB; clear HO103; have HO_3 := n0_; have HB := n1_; have HO106 := n2_; clear n0_ n1_ n2_; clear ho hb hg hat))
     go_roundg k1
     case measure => have := HK1.out; omega
     case rel => exact ⟨(IntKind.u64.wrap (Int.tdiv x0_1 10)), (y104), (by first | rfl | (simp; done) | (simp [nil_ne_, nil_eq_]; done) | (simp [*]; done)), H', ⟨by have := HK1.out; omega⟩, ⟨by (with_reducible repeat (first | apply Kd.R_alloc | apply Kd.R_drewN | apply Kd.R_drew)); exact Kd.R_mono HO106.out (fun _ hk => trivial)⟩, ⟨by repeat (first | (with_reducible first | exact HB.out | apply below_alloc | apply pw_below_drewN | apply below_drew1) | exact HB.out)⟩⟩
   ·
    rw [if_neg c2] at H
    exact absurd H (by simp)

/-! ### jsonparser_nextTokenConfig: function 19 -/
def jsonparser_nextTokenConfig.l0 : Nat → List Int → Int → Int → Option (Int)
  | 0, _, _, _ => none
  | k + 1, x7, x8, x9 => if x9 < x8 then (if 0 ≤ x9 then (if x9 < (x7.length : Int) then (if (rd x7 x9) = 32 then (jsonparser_nextTokenConfig.l0 k x7 x8 (wrap64 (x9 + 1))) else (if (rd x7 x9) = 10 then (jsonparser_nextTokenConfig.l0 k x7 x8 (wrap64 (x9 + 1))) else (if (rd x7 x9) = 13 then (jsonparser_nextTokenConfig.l0 k x7 x8 (wrap64 (x9 + 1))) else (if (rd x7 x9) = 9 then (jsonparser_nextTokenConfig.l0 k x7 x8 (wrap64 (x9 + 1))) else (some x9))))) else (none)) else (none)) else (some (-1))
def jsonparser_nextTokenConfig.f (k : Nat) (a0_0 : Bool) (a0_1 : Bool) (a0_2 : Int) (l1 : List Int) : Option (Int) := jsonparser_nextTokenConfig.l0 k l1 (l1.length : Int) 0
theorem jsonparser_nextTokenConfig.mono_l : ∀ k, (∀ y0 y1 y2, LeO (jsonparser_nextTokenConfig.l0 k y0 y1 y2) (jsonparser_nextTokenConfig.l0 (k + 1) y0 y1 y2))
  | 0 => fun _ _ _ r h => by simp [jsonparser_nextTokenConfig.l0] at h
  | k + 1 => by
    have ih0 := jsonparser_nextTokenConfig.mono_l k
    · intro y0 y1 y2
      unfold jsonparser_nextTokenConfig.l0
      repeat' first
      | (with_reducible exact ih0 _ _ _)
      | (with_reducible exact LeO.refl _)
      | (with_reducible exact LeO.none _)
      | (with_reducible refine LeO.ite ?_ ?_)
      | (with_reducible refine LeO.bind ?_ (fun _ => ?_))
      | exact ih0 _ _ _
      | exact LeO.none _
      | refine LeO.ite ?_ ?_
      | refine LeO.bind ?_ (fun _ => ?_)
theorem jsonparser_nextTokenConfig.mono : ∀ a0 a1 a2 a3 k, LeO (jsonparser_nextTokenConfig.f k a0 a1 a2 a3) (jsonparser_nextTokenConfig.f (k + 1) a0 a1 a2 a3) := by
  intro a0 a1 a2 a3 k
  have ih0 := jsonparser_nextTokenConfig.mono_l k
  unfold jsonparser_nextTokenConfig.f
  repeat' first
      | (with_reducible exact ih0 _ _ _)
      | (with_reducible exact LeO.refl _)
      | (with_reducible exact LeO.none _)
      | (with_reducible refine LeO.ite ?_ ?_)
      | (with_reducible refine LeO.bind ?_ (fun _ => ?_))
      | exact ih0 _ _ _
      | exact LeO.none _
      | refine LeO.ite ?_ ?_
      | refine LeO.bind ?_ (fun _ => ?_)
set_option maxHeartbeats 8000000 in
set_option maxRecDepth 100000 in
theorem jsonparser_nextTokenConfig.calls (k : Nat) (a0_0 : Bool) (a0_1 : Bool) (a0_2 : Int) (A1 : Option Addr) (c1 : Nat) (l1 : List Int) (r : Int) (w : World) (hr1 : Kd.C (Kd.int .u8) w A1 l1.length l1) (hc1 : l1.length ≤ c1) (h : jsonparser_nextTokenConfig.f k a0_0 a0_1 a0_2 l1 = some r) :
    Calls Tryd.prog 19 #[.agg #[.bool a0_0, .bool a0_1, .int .i64 a0_2], .slice A1 l1.length c1] w fun e w' => e = .returned (.int .i64 r) ∧ Below w.heap.size w w' := by
 have hu53 := Tryd.underlying53
 have HR1 := Aside0.mk hr1
 have HC1 := Aside0.mk hc1
 clear hr1 hc1
 have HB := Aside0.mk (Below.refl w.heap.size w)
 have H : (jsonparser_nextTokenConfig.l0 k l1 (l1.length : Int) 0) = some r := h
 clear h
 have H' := Aside0.mk H
 clear H
 go_enter Tryd.func19, Tryd.ntmps19
 go_wp2_with (first | ((with_reducible refine gate_dst (N := 2) rfl ?_); refine box_event ?hg (N := 2) ?hd (cs := #[.bool a0_0, .bool a0_1, .int .i64 a0_2]) (t := 53) ?hr ?_; (case hd => rfl); (case hg => rfl); (case hr => first | (go_simp; done) | (go_simp; rfl)); intro gb107 hg w3 hbox hb; have n0_ := Aside0.mk (below_step (by repeat (first | (with_reducible first | exact HB.out | apply below_alloc | apply pw_below_drewN | apply below_drew1) | exact HB.out)) hb); have n1_ := Aside0.mk (hbox); have n2_ := Aside0.mk ((by rw [hg]; exact (below_size (by repeat (first | (with_reducible first | exact HB.out | apply below_alloc | apply pw_below_drewN | apply below_drew1) | exact HB.out))) : w.heap.size ≤ gb107)); have n3_ := Aside0.mk ((by rw [hg]; exact (below_size (by repeat (first | (with_reducible first | exact HB.out | apply below_alloc | apply pw_below_drewN | apply below_drew1) | exact HB.out))) : w.heap.size ≤ gb107)); clear HB; have HB := n0_; have BK107 := n1_; have GW107 := n2_; have GE107 := n3_; clear n0_ n1_ n2_ n3_; clear hb hbox hg))
 try simp only [Act.put, List.setIfInBounds_toArray, List.set_cons_succ, List.set_cons_zero]
 go_loopg [9] k (fun kq v9 w' => ∃ (x9_1 : Int), v9 = .int .i64 x9_1 ∧ Aside0 (jsonparser_nextTokenConfig.l0 kq l1 (l1.length : Int) x9_1 = some r) ∧ Aside0 (kq ≤ k) ∧ Aside0 (w'.heap[gb107]? = some (.cells #[.bool a0_0, .bool a0_1, .int .i64 a0_2] 53 (0, 0))) ∧ Aside0 (Below w.heap.size w w'))
 case atStart => exact ⟨(0), (by first | rfl | (simp; done) | (simp [nil_ne_, nil_eq_]; done) | (simp [*]; done)), H', ⟨Nat.le_refl _⟩, ⟨by (with_reducible repeat (first | refine blk_drewN ?_ _ | refine blk_drew ?_ | refine blk_alloc ?_ _)); exact BK107.out⟩, ⟨by repeat (first | (with_reducible first | exact HB.out | apply below_alloc | apply pw_below_drewN | apply below_drew1 | refine below_set ?_ GE107.out) | exact HB.out)⟩⟩
 case round =>
  clear H'
  try clear c1
  try clear p2
  obtain ⟨x9_1, rfl, HA, HK1, BK107, HB⟩ := hrel
  cases gk with
  | zero => exact absurd HA.out (by simp [jsonparser_nextTokenConfig.l0])
  | succ k1 =>
   have H := HA.out
   clear HA
   simp only [jsonparser_nextTokenConfig.l0] at H
   by_cases c4 : x9_1 < (l1.length : Int)
   ·
    rw [if_pos c4] at H
    have c4b0 : decide (x9_1 < (l1.length : Int)) = true := decide_eq_true c4
    clear c4
    by_cases c5 : 0 ≤ x9_1
    ·
     rw [if_pos c5] at H
     have c5b0 : decide (0 ≤ x9_1) = true := decide_eq_true c5
     clear c5
     by_cases c6 : x9_1 < (l1.length : Int)
     ·
      rw [if_pos c6] at H
      have c6b0 : decide (x9_1 < (l1.length : Int)) = true := decide_eq_true c6
      clear c6
      by_cases c7 : (rd l1 x9_1) = 32
      ·
       rw [if_pos c7] at H
       have c7b0 : ((rd l1 x9_1) == 32) = true := beq_iff_eq.mpr c7
       have c7b1 : ((rd l1 x9_1) != 32) = false := bne_eq_false_iff_eq.mpr c7
       clear c7
       have H' := Aside0.mk H
       clear H
       have p108 : 0 ≤ (x9_1 : Int) := of_decide_eq_true (by first | (with_reducible assumption) | assumption)
       have q108 : x9_1 < (l1.length : Int) := of_decide_eq_true (by first | (with_reducible assumption) | assumption)
       obtain ⟨ad108, e108, hx108_0⟩ := Kd.at_int HR1.out x9_1 p108 q108
       cases e108
       replace hx108_0 := (HB.out.cell (World.block_lt_of_cell? w _ hx108_0)).trans hx108_0
       replace p108 := eq_true p108
       replace q108 := eq_true q108
       go_wp2
       go_roundg k1
       case measure => have := HK1.out; omega
       case rel => exact ⟨(wrap64 (x9_1 + 1)), (by first | rfl | (simp; done) | (simp [nil_ne_, nil_eq_]; done) | (simp [*]; done)), H', ⟨by have := HK1.out; omega⟩, ⟨by (with_reducible repeat (first | refine blk_drewN ?_ _ | refine blk_drew ?_ | refine blk_alloc ?_ _)); exact BK107.out⟩, ⟨by repeat (first | (with_reducible first | exact HB.out | apply below_alloc | apply pw_below_drewN | apply below_drew1 | refine below_set ?_ GE107.out) | exact HB.out)⟩⟩
      ·
       rw [if_neg c7] at H
       have c7b0 : ((rd l1 x9_1) == 32) = false := beq_eq_false_iff_ne.mpr c7
       have c7b1 : ((rd l1 x9_1) != 32) = true := bne_iff_ne.mpr c7
       by_cases c8 : (rd l1 x9_1) = 10
       ·
        rw [if_pos c8] at H
        have c8b0 : ((rd l1 x9_1) == 10) = true := beq_iff_eq.mpr c8
        have c8b1 : ((rd l1 x9_1) != 10) = false := bne_eq_false_iff_eq.mpr c8
        clear c8
        have H' := Aside0.mk H
        clear H
        have p108 : 0 ≤ (x9_1 : Int) := of_decide_eq_true (by first | (with_reducible assumption) | assumption)
        have q108 : x9_1 < (l1.length : Int) := of_decide_eq_true (by first | (with_reducible assumption) | assumption)
        obtain ⟨ad108, e108, hx108_0⟩ := Kd.at_int HR1.out x9_1 p108 q108
        cases e108
        replace hx108_0 := (HB.out.cell (World.block_lt_of_cell? w _ hx108_0)).trans hx108_0
        replace p108 := eq_true p108
        replace q108 := eq_true q108
        go_wp2
        go_roundg k1
        case measure => have := HK1.out; omega
        case rel => exact ⟨(wrap64 (x9_1 + 1)), (by first | rfl | (simp; done) | (simp [nil_ne_, nil_eq_]; done) | (simp [*]; done)), H', ⟨by have := HK1.out; omega⟩, ⟨by (with_reducible repeat (first | refine blk_drewN ?_ _ | refine blk_drew ?_ | refine blk_alloc ?_ _)); exact BK107.out⟩, ⟨by repeat (first | (with_reducible first | exact HB.out | apply below_alloc | apply pw_below_drewN | apply below_drew1 | refine below_set ?_ GE107.out) | exact HB.out)⟩⟩
       ·
        rw [if_neg c8] at H
        have c8b0 : ((rd l1 x9_1) == 10) = false := beq_eq_false_iff_ne.mpr c8
        have c8b1 : ((rd l1 x9_1) != 10) = true := bne_iff_ne.mpr c8
        by_cases c9 : (rd l1 x9_1) = 13
        ·
         rw [if_pos c9] at H
         have c9b0 : ((rd l1 x9_1) == 13) = true := beq_iff_eq.mpr c9
         have c9b1 : ((rd l1 x9_1) != 13) = false := bne_eq_false_iff_eq.mpr c9
         clear c9
         have H' := Aside0.mk H
         clear H
         have p108 : 0 ≤ (x9_1 : Int) := of_decide_eq_true (by first | (with_reducible assumption) | assumption)
         have q108 : x9_1 < (l1.length : Int) := of_decide_eq_true (by first | (with_reducible assumption) | assumption)
         obtain ⟨ad108, e108, hx108_0⟩ := Kd.at_int HR1.out x9_1 p108 q108
         cases e108
         replace hx108_0 := (HB.out.cell (World.block_lt_of_cell? w _ hx108_0)).trans hx108_0
         replace p108 := eq_true p108
         replace q108 := eq_true q108
         go_wp2
         go_roundg k1
         case measure => have := HK1.out; omega
         case rel => exact ⟨(wrap64 (x9_1 + 1)), (by first | rfl | (simp; done) | (simp [nil_ne_, nil_eq_]; done) | (simp [*]; done)), H', ⟨by have := HK1.out; omega⟩, ⟨by (with_reducible repeat (first | refine blk_drewN ?_ _ | refine blk_drew ?_ | refine blk_alloc ?_ _)); exact BK107.out⟩, ⟨by repeat (first | (with_reducible first | exact HB.out | apply below_alloc | apply pw_below_drewN | apply below_drew1 | refine below_set ?_ GE107.out) | exact HB.out)⟩⟩
        ·
         rw [if_neg c9] at H
         have c9b0 : ((rd l1 x9_1) == 13) = false := beq_eq_false_iff_ne.mpr c9
         have c9b1 : ((rd l1 x9_1) != 13) = true := bne_iff_ne.mpr c9
         by_cases c10 : (rd l1 x9_1) = 9
         ·
          rw [if_pos c10] at H
          have c10b0 : ((rd l1 x9_1) == 9) = true := beq_iff_eq.mpr c10
          have c10b1 : ((rd l1 x9_1) != 9) = false := bne_eq_false_iff_eq.mpr c10
          clear c10
          have H' := Aside0.mk H
          clear H
          have p108 : 0 ≤ (x9_1 : Int) := of_decide_eq_true (by first | (with_reducible assumption) | assumption)
          have q108 : x9_1 < (l1.length : Int) := of_decide_eq_true (by first | (with_reducible assumption) | assumption)
          obtain ⟨ad108, e108, hx108_0⟩ := Kd.at_int HR1.out x9_1 p108 q108
          cases e108
          replace hx108_0 := (HB.out.cell (World.block_lt_of_cell? w _ hx108_0)).trans hx108_0
          replace p108 := eq_true p108
          replace q108 := eq_true q108
          go_wp2
          go_roundg k1
          case measure => have := HK1.out; omega
          case rel => exact ⟨(wrap64 (x9_1 + 1)), (by first | rfl | (simp; done) | (simp [nil_ne_, nil_eq_]; done) | (simp [*]; done)), H', ⟨by have := HK1.out; omega⟩, ⟨by (with_reducible repeat (first | refine blk_drewN ?_ _ | refine blk_drew ?_ | refine blk_alloc ?_ _)); exact BK107.out⟩, ⟨by repeat (first | (with_reducible first | exact HB.out | apply below_alloc | apply pw_below_drewN | apply below_drew1 | refine below_set ?_ GE107.out) | exact HB.out)⟩⟩
         ·
          rw [if_neg c10] at H
          have c10b0 : ((rd l1 x9_1) == 9) = false := beq_eq_false_iff_ne.mpr c10
          have c10b1 : ((rd l1 x9_1) != 9) = true := bne_iff_ne.mpr c10
          obtain rfl := Option.some.inj H
          have p108 : 0 ≤ (x9_1 : Int) := of_decide_eq_true (by first | (with_reducible assumption) | assumption)
          have q108 : x9_1 < (l1.length : Int) := of_decide_eq_true (by first | (with_reducible assumption) | assumption)
          obtain ⟨ad108, e108, hx108_0⟩ := Kd.at_int HR1.out x9_1 p108 q108
          cases e108
          replace hx108_0 := (HB.out.cell (World.block_lt_of_cell? w _ hx108_0)).trans hx108_0
          replace p108 := eq_true p108
          replace q108 := eq_true q108
          go_wp2
          go_ret
          exact ⟨by first | rfl | (simp [errX_none, errX_some] <;> rfl) | (simp [*, errX_none, errX_some] <;> rfl), by repeat (first | (with_reducible first | exact HB.out | apply below_alloc | apply pw_below_drewN | apply below_drew1 | refine below_set ?_ GE107.out) | exact HB.out)⟩
     ·
      rw [if_neg c6] at H
      exact absurd H (by simp)
    ·
     rw [if_neg c5] at H
     exact absurd H (by simp)
   ·
    rw [if_neg c4] at H
    have c4b0 : decide (x9_1 < (l1.length : Int)) = false := decide_eq_false c4
    clear c4
    obtain rfl := Option.some.inj H
    go_wp2
    go_ret
    exact ⟨by first | rfl | (simp [errX_none, errX_some] <;> rfl) | (simp [*, errX_none, errX_some] <;> rfl), by repeat (first | (with_reducible first | exact HB.out | apply below_alloc | apply pw_below_drewN | apply below_drew1 | refine below_set ?_ GE107.out) | exact HB.out)⟩

/-! ### binary_littleEndian_Uint64: function 37 -/
def binary_littleEndian_Uint64.f (a0 : Unit) (l1 : List Int) : Option (Int) := if 7 < (l1.length : Int) then (if 0 < (l1.length : Int) then (if 1 < (l1.length : Int) then (if 2 < (l1.length : Int) then (if 3 < (l1.length : Int) then (if 4 < (l1.length : Int) then (if 5 < (l1.length : Int) then (if 6 < (l1.length : Int) then (some (Go.bits .or .u64 (Go.bits .or .u64 (Go.bits .or .u64 (Go.bits .or .u64 (Go.bits .or .u64 (Go.bits .or .u64 (Go.bits .or .u64 (IntKind.u64.wrap (rd l1 0)) (IntKind.u64.wrap ((IntKind.u64.wrap (rd l1 1)) * 256))) (IntKind.u64.wrap ((IntKind.u64.wrap (rd l1 2)) * 65536))) (IntKind.u64.wrap ((IntKind.u64.wrap (rd l1 3)) * 16777216))) (IntKind.u64.wrap ((IntKind.u64.wrap (rd l1 4)) * 4294967296))) (IntKind.u64.wrap ((IntKind.u64.wrap (rd l1 5)) * 1099511627776))) (IntKind.u64.wrap ((IntKind.u64.wrap (rd l1 6)) * 281474976710656))) (IntKind.u64.wrap ((IntKind.u64.wrap (rd l1 7)) * 72057594037927936)))) else (none)) else (none)) else (none)) else (none)) else (none)) else (none)) else (none)) else (none)
set_option maxHeartbeats 8000000 in
set_option maxRecDepth 100000 in
theorem binary_littleEndian_Uint64.calls (a0 : Unit) (A1 : Option Addr) (c1 : Nat) (l1 : List Int) (r : Int) (w : World) (hr1 : Kd.C (Kd.int .u8) w A1 l1.length l1) (hc1 : l1.length ≤ c1) (h : binary_littleEndian_Uint64.f a0 l1 = some r) :
    Calls Tryd.prog 37 #[.agg #[], .slice A1 l1.length c1] w fun e w' => e = .returned (.int .u64 r) ∧ Below w.heap.size w w' := by
 have HR1 := Aside0.mk hr1
 have HC1 := Aside0.mk hc1
 clear hr1 hc1
 have HB := Aside0.mk (Below.refl w.heap.size w)
 have H : (if 7 < (l1.length : Int) then (if 0 < (l1.length : Int) then (if 1 < (l1.length : Int) then (if 2 < (l1.length : Int) then (if 3 < (l1.length : Int) then (if 4 < (l1.length : Int) then (if 5 < (l1.length : Int) then (if 6 < (l1.length : Int) then (some (Go.bits .or .u64 (Go.bits .or .u64 (Go.bits .or .u64 (Go.bits .or .u64 (Go.bits .or .u64 (Go.bits .or .u64 (Go.bits .or .u64 (IntKind.u64.wrap (rd l1 0)) (IntKind.u64.wrap ((IntKind.u64.wrap (rd l1 1)) * 256))) (IntKind.u64.wrap ((IntKind.u64.wrap (rd l1 2)) * 65536))) (IntKind.u64.wrap ((IntKind.u64.wrap (rd l1 3)) * 16777216))) (IntKind.u64.wrap ((IntKind.u64.wrap (rd l1 4)) * 4294967296))) (IntKind.u64.wrap ((IntKind.u64.wrap (rd l1 5)) * 1099511627776))) (IntKind.u64.wrap ((IntKind.u64.wrap (rd l1 6)) * 281474976710656))) (IntKind.u64.wrap ((IntKind.u64.wrap (rd l1 7)) * 72057594037927936)))) else (none)) else (none)) else (none)) else (none)) else (none)) else (none)) else (none)) else (none)) = some r := h
 clear h
 by_cases c3 : 7 < (l1.length : Int)
 ·
  rw [if_pos c3] at H
  have c3b0 : decide (7 < (l1.length : Int)) = true := decide_eq_true c3
  have c3b1 : decide (7 < l1.length) = true := decide_eq_true (by omega)
  clear c3
  by_cases c4 : 0 < (l1.length : Int)
  ·
   rw [if_pos c4] at H
   have c4b0 : decide (0 < (l1.length : Int)) = true := decide_eq_true c4
   have c4b1 : decide (0 < l1.length) = true := decide_eq_true (by omega)
   clear c4
   by_cases c5 : 1 < (l1.length : Int)
   ·
    rw [if_pos c5] at H
    have c5b0 : decide (1 < (l1.length : Int)) = true := decide_eq_true c5
    have c5b1 : decide (1 < l1.length) = true := decide_eq_true (by omega)
    clear c5
    by_cases c6 : 2 < (l1.length : Int)
    ·
     rw [if_pos c6] at H
     have c6b0 : decide (2 < (l1.length : Int)) = true := decide_eq_true c6
     have c6b1 : decide (2 < l1.length) = true := decide_eq_true (by omega)
     clear c6
     by_cases c7 : 3 < (l1.length : Int)
     ·
      rw [if_pos c7] at H
      have c7b0 : decide (3 < (l1.length : Int)) = true := decide_eq_true c7
      have c7b1 : decide (3 < l1.length) = true := decide_eq_true (by omega)
      clear c7
      by_cases c8 : 4 < (l1.length : Int)
      ·
       rw [if_pos c8] at H
       have c8b0 : decide (4 < (l1.length : Int)) = true := decide_eq_true c8
       have c8b1 : decide (4 < l1.length) = true := decide_eq_true (by omega)
       clear c8
       by_cases c9 : 5 < (l1.length : Int)
       ·
        rw [if_pos c9] at H
        have c9b0 : decide (5 < (l1.length : Int)) = true := decide_eq_true c9
        have c9b1 : decide (5 < l1.length) = true := decide_eq_true (by omega)
        clear c9
        by_cases c10 : 6 < (l1.length : Int)
        ·
         rw [if_pos c10] at H
         have c10b0 : decide (6 < (l1.length : Int)) = true := decide_eq_true c10
         have c10b1 : decide (6 < l1.length) = true := decide_eq_true (by omega)
         clear c10
         obtain rfl := Option.some.inj H
         go_enter Tryd.func37, Tryd.ntmps37
         iterate 3 (try go_wp2_with (first | ((with_reducible refine gate_dst (N := 2) rfl ?_); refine box_event ?hg (N := 2) ?hd (cs := #[]) (t := 83) ?hr ?_; (case hd => rfl); (case hg => rfl); (case hr => first | (go_simp; done) | (go_simp; rfl)); intro gb109 hg w11 hbox hb; have n0_ := Aside0.mk (below_step (by repeat (first | (with_reducible first | exact HB.out | apply below_alloc | apply pw_below_drewN | apply below_drew1) | exact HB.out)) hb); have n1_ := Aside0.mk (hbox); have n2_ := Aside0.mk ((by rw [hg]; exact (below_size (by repeat (first | (with_reducible first | exact HB.out | apply below_alloc | apply pw_below_drewN | apply below_drew1) | exact HB.out))) : w.heap.size ≤ gb109)); have n3_ := Aside0.mk ((by rw [hg]; exact (below_size (by repeat (first | (with_reducible first | exact HB.out | apply below_alloc | apply pw_below_drewN | apply below_drew1) | exact HB.out))) : w.heap.size ≤ gb109)); clear HB; have HB := n0_; have BK109 := n1_; have GW109 := n2_; have GE109 := n3_; clear n0_ n1_ n2_ n3_; clear hb hbox hg; have p110 : 0 ≤ (7 : Int) := (by omega); have q110 : 7 < (l1.length : Int) := of_decide_eq_true (by first | (with_reducible assumption) | assumption); obtain ⟨ad110, e110, hx110_0⟩ := Kd.at_int HR1.out 7 p110 q110; cases e110; (try simp only [show (7 : Int).toNat = 7 from rfl, Nat.reduceMul, Nat.reduceEqDiff, Go.Addr.add, ↓reduceIte] at hx110_0); have qi110 : (7 < l1.length) = True := eq_true (by omega); (try rw [show ((7 : Int)).toNat = 7 from rfl] at hx110_0); replace hx110_0 := (HB.out.cell (World.block_lt_of_cell? w _ hx110_0)).trans hx110_0; replace p110 := eq_true p110; replace q110 := eq_true q110; have p111 : 0 ≤ (0 : Int) := (by omega); have q111 : 0 < (l1.length : Int) := of_decide_eq_true (by first | (with_reducible assumption) | assumption); obtain ⟨ad111, e111, hx111_0⟩ := Kd.at_int HR1.out 0 p111 q111; obtain rfl : ad110 = ad111 := (by injection e111); have qi111 : (0 < l1.length) = True := eq_true (by omega); (try rw [show ((0 : Int)).toNat = 0 from rfl] at hx111_0); (try rw [Addr.add_zero'] at hx111_0); replace hx111_0 := (HB.out.cell (World.block_lt_of_cell? w _ hx111_0)).trans hx111_0; replace p111 := eq_true p111; replace q111 := eq_true q111; have p112 : 0 ≤ (1 : Int) := (by omega); have q112 : 1 < (l1.length : Int) := of_decide_eq_true (by first | (with_reducible assumption) | assumption); obtain ⟨ad112, e112, hx112_0⟩ := Kd.at_int HR1.out 1 p112 q112; obtain rfl : ad110 = ad112 := (by injection e112); (try simp only [show (1 : Int).toNat = 1 from rfl, Nat.reduceMul, Nat.reduceEqDiff, Go.Addr.add, ↓reduceIte] at hx112_0); have qi112 : (1 < l1.length) = True := eq_true (by omega); (try rw [show ((1 : Int)).toNat = 1 from rfl] at hx112_0); replace hx112_0 := (HB.out.cell (World.block_lt_of_cell? w _ hx112_0)).trans hx112_0; replace p112 := eq_true p112; replace q112 := eq_true q112; have p113 : 0 ≤ (2 : Int) := (by omega); have q113 : 2 < (l1.length : Int) := of_decide_eq_true (by first | (with_reducible assumption) | assumption); obtain ⟨ad113, e113, hx113_0⟩ := Kd.at_int HR1.out 2 p113 q113; obtain rfl : ad110 = ad113 := (by injection e113); (try simp only [show (2 : Int).toNat = 2 from rfl, Nat.reduceMul, Nat.reduceEqDiff, Go.Addr.add, ↓reduceIte] at hx113_0); have qi113 : (2 < l1.length) = True := eq_true (by omega); (try rw [show ((2 : Int)).toNat = 2 from rfl] at hx113_0); replace hx113_0 := (HB.out.cell (World.block_lt_of_cell? w _ hx113_0)).trans hx113_0; replace p113 := eq_true p113; replace q113 := eq_true q113; have p114 : 0 ≤ (3 : Int) := (by omega); have q114 : 3 < (l1.length : Int) := of_decide_eq_true (by first | (with_reducible assumption) | assumption); obtain ⟨ad114, e114, hx114_0⟩ := Kd.at_int HR1.out 3 p114 q114; obtain rfl : ad110 = ad114 := (by injection e114); (try simp only [show (3 : Int).toNat = 3 from rfl, Nat.reduceMul, Nat.reduceEqDiff, Go.Addr.add, ↓reduceIte] at hx114_0); have qi114 : (3 < l1.length) = True := eq_true (by omega); (try rw [show ((3 : Int)).toNat = 3 from rfl] at hx114_0); replace hx114_0 := (HB.out.cell (World.block_lt_of_cell? w _ hx114_0)).trans hx114_0; replace p114 := eq_true p114; replace q114 := eq_true q114; have p115 : 0 ≤ (4 : Int) := (by omega); have q115 : 4 < (l1.length : Int) := of_decide_eq_true (by first | (with_reducible assumption) | assumption); obtain ⟨ad115, e115, hx115_0⟩ := Kd.at_int HR1.out 4 p115 q115; obtain rfl : ad110 = ad115 := (by injection e115); (try simp only [show (4 : Int).toNat = 4 from rfl, Nat.reduceMul, Nat.reduceEqDiff, Go.Addr.add, ↓reduceIte] at hx115_0); have qi115 : (4 < l1.length) = True := eq_true (by omega); (try rw [show ((4 : Int)).toNat = 4 from rfl] at hx115_0); replace hx115_0 := (HB.out.cell (World.block_lt_of_cell? w _ hx115_0)).trans hx115_0; replace p115 := eq_true p115; replace q115 := eq_true q115; have p116 : 0 ≤ (5 : Int) := (by omega); have q116 : 5 < (l1.length : Int) := of_decide_eq_true (by first | (with_reducible assumption) | assumption); obtain ⟨ad116, e116, hx116_0⟩ := Kd.at_int HR1.out 5 p116 q116; obtain rfl : ad110 = ad116 := (by injection e116); (try simp only [show (5 : Int).toNat = 5 from rfl, Nat.reduceMul, Nat.reduceEqDiff, Go.Addr.add, ↓reduceIte] at hx116_0); have qi116 : (5 < l1.length) = True := eq_true (by omega); (try rw [show ((5 : Int)).toNat = 5 from rfl] at hx116_0); replace hx116_0 := (HB.out.cell (World.block_lt_of_cell? w _ hx116_0)).trans hx116_0; replace p116 := eq_true p116; replace q116 := eq_true q116; have p117 : 0 ≤ (6 : Int) := (by omega); have q117 : 6 < (l1.length : Int) := of_decide_eq_true (by first | (with_reducible assumption) | assumption); obtain ⟨ad117, e117, hx117_0⟩ := Kd.at_int HR1.out 6 p117 q117; obtain rfl : ad110 = ad117 := (by injection e117); (try simp only [show (6 : Int).toNat = 6 from rfl, Nat.reduceMul, Nat.reduceEqDiff, Go.Addr.add, ↓reduceIte] at hx117_0); have qi117 : (6 < l1.length) = True := eq_true (by omega); (try rw [show ((6 : Int)).toNat = 6 from rfl] at hx117_0); replace hx117_0 := (HB.out.cell (World.block_lt_of_cell? w _ hx117_0)).trans hx117_0; replace p117 := eq_true p117; replace q117 := eq_true q117; have p118 : 0 ≤ (7 : Int) := (by omega); have q118 : 7 < (l1.length : Int) := of_decide_eq_true (by first | (with_reducible assumption) | assumption); obtain ⟨ad118, e118, hx118_0⟩ := Kd.at_int HR1.out 7 p118 q118; obtain rfl : ad110 = ad118 := (by injection e118); (try simp only [show (7 : Int).toNat = 7 from rfl, Nat.reduceMul, Nat.reduceEqDiff, Go.Addr.add, ↓reduceIte] at hx118_0); have qi118 : (7 < l1.length) = True := eq_true (by omega); (try rw [show ((7 : Int)).toNat = 7 from rfl] at hx118_0); replace hx118_0 := (HB.out.cell (World.block_lt_of_cell? w _ hx118_0)).trans hx118_0; replace p118 := eq_true p118; replace q118 := eq_true q118)); try go_quiet (first | ((with_reducible refine gate_dst (N := 2) rfl ?_); refine box_event ?hg (N := 2) ?hd (cs := #[]) (t := 83) ?hr ?_; (case hd => rfl); (case hg => rfl); (case hr => first | (go_simp; done) | (go_simp; rfl)); intro gb109 hg w11 hbox hb; have n0_ := Aside0.mk (below_step (by repeat (first | (with_reducible first | exact HB.out | apply below_alloc | apply pw_below_drewN | apply below_drew1) | exact HB.out)) hb); have n1_ := Aside0.mk (hbox); have n2_ := Aside0.mk ((by rw [hg]; exact (below_size (by repeat (first | (with_reducible first | exact HB.out | apply below_alloc | apply pw_below_drewN | apply below_drew1) | exact HB.out))) : w.heap.size ≤ gb109)); have n3_ := Aside0.mk ((by rw [hg]; exact (below_size (by repeat (first | (with_reducible first | exact HB.out | apply below_alloc | apply pw_below_drewN | apply below_drew1) | exact HB.out))) : w.heap.size ≤ gb109)); clear HB; have HB := n0_; have BK109 := n1_; have GW109 := n2_; have GE109 := n3_; clear n0_ n1_ n2_ n3_; clear hb hbox hg; have p110 : 0 ≤ (7 : Int) := (by omega); have q110 : 7 < (l1.length : Int) := of_decide_eq_true (by first | (with_reducible assumption) | assumption); obtain ⟨ad110, e110, hx110_0⟩ := Kd.at_int HR1.out 7 p110 q110; cases e110; (try simp only [show (7 : Int).toNat = 7 from rfl, Nat.reduceMul, Nat.reduceEqDiff, Go.Addr.add, ↓reduceIte] at hx110_0); have qi110 : (7 < l1.length) = True := eq_true (by omega); (try rw [show ((7 : Int)).toNat = 7 from rfl] at hx110_0); replace hx110_0 := (HB.out.cell (World.block_lt_of_cell? w _ hx110_0)).trans hx110_0; replace p110 := eq_true p110; replace q110 := eq_true q110; have p111 : 0 ≤ (0 : Int) := (by omega); have q111 : 0 < (l1.length : Int) := of_decide_eq_true (by first | (with_reducible assumption) | assumption); obtain ⟨ad111, e111, hx111_0⟩ := Kd.at_int HR1.out 0 p111 q111; obtain rfl : ad110 = ad111 := (by injection e111); have qi111 : (0 < l1.length) = True := eq_true (by omega); (try rw [show ((0 : Int)).toNat = 0 from rfl] at hx111_0); (try rw [Addr.add_zero'] at hx111_0); replace hx111_0 := (HB.out.cell (World.block_lt_of_cell? w _ hx111_0)).trans hx111_0; replace p111 := eq_true p111; replace q111 := eq_true q111; have p112 : 0 ≤ (1 : Int) := (by omega); have q112 : 1 < (l1.length : Int) := of_decide_eq_true (by first | (with_reducible assumption) | assumption); obtain ⟨ad112, e112, hx112_0⟩ := Kd.at_int HR1.out 1 p112 q112; obtain rfl : ad110 = ad112 := (by injection e112); (try simp only [show (1 : Int).toNat = 1 from rfl, Nat.reduceMul, Nat.reduceEqDiff, Go.Addr.add, ↓reduceIte] at hx112_0); have qi112 : (1 < l1.length) = True := eq_true (by omega); (try rw [show ((1 : Int)).toNat = 1 from rfl] at hx112_0); replace hx112_0 := (HB.out.cell (World.block_lt_of_cell? w _ hx112_0)).trans hx112_0; replace p112 := eq_true p112; replace q112 := eq_true q112; have p113 : 0 ≤ (2 : Int) := (by omega); have q113 : 2 < (l1.length : Int) := of_decide_eq_true (by first | (with_reducible assumption) | assumption); obtain ⟨ad113, e113, hx113_0⟩ := Kd.at_int HR1.out 2 p113 q113; obtain rfl : ad110 = ad113 := (by injection e113); (try simp only [show (2 : Int).toNat = 2 from rfl, Nat.reduceMul, Nat.reduceEqDiff, Go.Addr.add, ↓reduceIte] at hx113_0); have qi113 : (2 < l1.length) = True := eq_true (by omega); (try rw [show ((2 : Int)).toNat = 2 from rfl] at hx113_0); replace hx113_0 := (HB.out.cell (World.block_lt_of_cell? w _ hx113_0)).trans hx113_0; replace p113 := eq_true p113; replace q113 := eq_true q113; have p114 : 0 ≤ (3 : Int) := (by omega); have q114 : 3 < (l1.length : Int) := of_decide_eq_true (by first | (with_reducible assumption) | assumption); obtain ⟨ad114, e114, hx114_0⟩ := Kd.at_int HR1.out 3 p114 q114; obtain rfl : ad110 = ad114 := (by injection e114); (try simp only [show (3 : Int).toNat = 3 from rfl, Nat.reduceMul, Nat.reduceEqDiff, Go.Addr.add, ↓reduceIte] at hx114_0); have qi114 : (3 < l1.length) = True := eq_true (by omega); (try rw [show ((3 : Int)).toNat = 3 from rfl] at hx114_0); replace hx114_0 := (HB.out.cell (World.block_lt_of_cell? w _ hx114_0)).trans hx114_0; replace p114 := eq_true p114; replace q114 := eq_true q114; have p115 : 0 ≤ (4 : Int) := (by omega); have q115 : 4 < (l1.length : Int) := of_decide_eq_true (by first | (with_reducible assumption) | assumption); obtain ⟨ad115, e115, hx115_0⟩ := Kd.at_int HR1.out 4 p115 q115; obtain rfl : ad110 = ad115 := (by injection e115); (try simp only [show (4 : Int).toNat = 4 from rfl, Nat.reduceMul, Nat.reduceEqDiff, Go.Addr.add, ↓reduceIte] at hx115_0); have qi115 : (4 < l1.length) = True := eq_true (by omega); (try rw [show ((4 : Int)).toNat = 4 from rfl] at hx115_0); replace hx115_0 := (HB.out.cell (World.block_lt_of_cell? w _ hx115_0)).trans hx115_0; replace p115 := eq_true p115; replace q115 := eq_true q115; have p116 : 0 ≤ (5 : Int) := (by omega); have q116 : 5 < (l1.length : Int) := of_decide_eq_true (by first | (with_reducible assumption) | assumption); obtain ⟨ad116, e116, hx116_0⟩ := Kd.at_int HR1.out 5 p116 q116; obtain rfl : ad110 = ad116 := (by injection e116); (try simp only [show (5 : Int).toNat = 5 from rfl, Nat.reduceMul, Nat.reduceEqDiff, Go.Addr.add, ↓reduceIte] at hx116_0); have qi116 : (5 < l1.length) = True := eq_true (by omega); (try rw [show ((5 : Int)).toNat = 5 from rfl] at hx116_0); replace hx116_0 := (HB.out.cell (World.block_lt_of_cell? w _ hx116_0)).trans hx116_0; replace p116 := eq_true p116; replace q116 := eq_true q116; have p117 : 0 ≤ (6 : Int) := (by omega); have q117 : 6 < (l1.length : Int) := of_decide_eq_true (by first | (with_reducible assumption) | assumption); obtain ⟨ad117, e117, hx117_0⟩ := Kd.at_int HR1.out 6 p117 q117; obtain rfl : ad110 = ad117 := (by injection e117); (try simp only [show (6 : Int).toNat = 6 from rfl, Nat.reduceMul, Nat.reduceEqDiff, Go.Addr.add, ↓reduceIte] at hx117_0); have qi117 : (6 < l1.length) = True := eq_true (by omega); (try rw [show ((6 : Int)).toNat = 6 from rfl] at hx117_0); replace hx117_0 := (HB.out.cell (World.block_lt_of_cell? w _ hx117_0)).trans hx117_0; replace p117 := eq_true p117; replace q117 := eq_true q117; have p118 : 0 ≤ (7 : Int) := (by omega); have q118 : 7 < (l1.length : Int) := of_decide_eq_true (by first | (with_reducible assumption) | assumption); obtain ⟨ad118, e118, hx118_0⟩ := Kd.at_int HR1.out 7 p118 q118; obtain rfl : ad110 = ad118 := (by injection e118); (try simp only [show (7 : Int).toNat = 7 from rfl, Nat.reduceMul, Nat.reduceEqDiff, Go.Addr.add, ↓reduceIte] at hx118_0); have qi118 : (7 < l1.length) = True := eq_true (by omega); (try rw [show ((7 : Int)).toNat = 7 from rfl] at hx118_0); replace hx118_0 := (HB.out.cell (World.block_lt_of_cell? w _ hx118_0)).trans hx118_0; replace p118 := eq_true p118; replace q118 := eq_true q118)))
         go_ret
         exact ⟨by first | rfl | (simp [errX_none, errX_some] <;> rfl) | (simp [*, errX_none, errX_some] <;> rfl), by repeat (first | (with_reducible first | exact HB.out | apply below_alloc | apply pw_below_drewN | apply below_drew1 | refine below_set ?_ GE109.out) | exact HB.out)⟩
        ·
         rw [if_neg c10] at H
         exact absurd H (by simp)
       ·
        rw [if_neg c9] at H
        exact absurd H (by simp)
      ·
       rw [if_neg c8] at H
       exact absurd H (by simp)
     ·
      rw [if_neg c7] at H
      exact absurd H (by simp)
    ·
     rw [if_neg c6] at H
     exact absurd H (by simp)
   ·
    rw [if_neg c5] at H
    exact absurd H (by simp)
  ·
   rw [if_neg c4] at H
   exact absurd H (by simp)
 ·
  rw [if_neg c3] at H
  exact absurd H (by simp)

end Go.Proofs.YtmkceaepdanmiaaDoor.PFnJqUintInt
