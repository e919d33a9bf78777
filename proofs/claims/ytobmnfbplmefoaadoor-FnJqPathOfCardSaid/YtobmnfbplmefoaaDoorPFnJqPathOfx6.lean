-- Written by a program of this session (wip/prx) out of the print of the loaded functions.
import Derived.Test.YtobmnfbplmefoaaDoorPFnJqPathOfx0
import Derived.Test.YtobmnfbplmefoaaDoorGXFnJqPathOf
import Derived.Test.YtobmnfbplmefoaaDoorHIFnJqPathOf
import Derived.Test.YtobmnfbplmefoaaDoorHNCFnJqPathOf
import Derived.Test.YtobmnfbplmefoaaDoorWCFnJqPathOf
namespace Go.Proofs.YtobmnfbplmefoaaDoor.PFnJqPathOf
open Go.RowKit Go.Proofs.YtobmnfbplmefoaaDoorW.PrintWords Go.Proofs.YtobmnfbplmefoaaDoorW.PrintLast Go.Proofs.YtobmnfbplmefoaaDoorW.PrintMore
attribute [local go_sem] max2_int min2_int max_two min_two max_three min_three max_four min_four   -- for this text's walks alone
set_option linter.unusedVariables false
set_option linter.unusedSimpArgs false

-- by hand (HNC): function 28 (jsonparser_Unescape)

/-! ### jsonparser_parseQuotedPathKey: function 20 -/
def jsonparser_parseQuotedPathKey.l0 : Nat → ByteArray → Int → Int → Option (ByteArray × Int × Option Int)
  | 0, _, _, _ => none
  | k + 1, x0, x7, x8 => if x8 < (x0.size : Int) then (if 0 ≤ x8 then (if (bt x0 x8) = 92 then (if (wrap64 (x8 + 1)) ≥ (x0.size : Int) then (some ((⟨#[]⟩ : ByteArray), 0, some 2)) else (jsonparser_parseQuotedPathKey.l0 k x0 x7 (wrap64 ((wrap64 (x8 + 1)) + 1)))) else (if (bt x0 x8) = 34 then (if 0 ≤ x7 then (if x7 ≤ x8 then (if x8 ≤ (x0.size : Int) then ((strings_IndexByte.f (x0.extract (x7 : Int).toNat (x8 : Int).toNat) 92).bind fun t151 => (if t151 = (-1) then (some (x0.extract (x7 : Int).toNat (x8 : Int).toNat, wrap64 (x8 + 1), none)) else (if (x0.extract (x7 : Int).toNat (x8 : Int).toNat).size ≤ 140737488355328 then ((jsonparser_Unescape.f (bytesOf (x0.extract (x7 : Int).toNat (x8 : Int).toNat)) ([] : List Int)).bind fun bt155 => (if bt155.2.isNone = true then (some (strOfNums bt155.1, wrap64 (x8 + 1), none)) else (some ((⟨#[]⟩ : ByteArray), 0, some 1)))) else (none)))) else (none)) else (none)) else (none)) else (if (bt x0 x8) < 32 then (some ((⟨#[]⟩ : ByteArray), 0, some 1)) else (jsonparser_parseQuotedPathKey.l0 k x0 x7 (wrap64 (x8 + 1)))))) else (none)) else (some ((⟨#[]⟩ : ByteArray), 0, some 2))
def jsonparser_parseQuotedPathKey.f (k : Nat) (a0 : ByteArray) (a1 : Int) : Option (ByteArray × Int × Option Int) := jsonparser_parseQuotedPathKey.l0 k a0 (wrap64 (a1 + 1)) (wrap64 (a1 + 1))
theorem jsonparser_parseQuotedPathKey.mono_l : ∀ k, (∀ y0 y1 y2, LeO (jsonparser_parseQuotedPathKey.l0 k y0 y1 y2) (jsonparser_parseQuotedPathKey.l0 (k + 1) y0 y1 y2))
  | 0 => fun _ _ _ r h => by simp [jsonparser_parseQuotedPathKey.l0] at h
  | k + 1 => by
    have ih0 := jsonparser_parseQuotedPathKey.mono_l k
    · intro y0 y1 y2
      unfold jsonparser_parseQuotedPathKey.l0
      repeat' first
      | (with_reducible exact ih0 _ _ _)
      | (with_reducible exact LeO.refl _)
      | (with_reducible exact LeO.none _)
      | (with_reducible refine LeO.ite ?_ ?_)
      | (with_reducible refine LeO.bind ?_ (fun _ => ?_))
      | exact ih0 _ _ _
      | exact LeO.none _
      | refine LeO.ite ?_ ?_
      | refine LeO.bind ?_ (fun _ => ?_)
theorem jsonparser_parseQuotedPathKey.mono : ∀ a0 a1 k, LeO (jsonparser_parseQuotedPathKey.f k a0 a1) (jsonparser_parseQuotedPathKey.f (k + 1) a0 a1) := by
  intro a0 a1 k
  have ih0 := jsonparser_parseQuotedPathKey.mono_l k
  unfold jsonparser_parseQuotedPathKey.f
  repeat' first
      | (with_reducible exact ih0 _ _ _)
      | (with_reducible exact LeO.refl _)
      | (with_reducible exact LeO.none _)
      | (with_reducible refine LeO.ite ?_ ?_)
      | (with_reducible refine LeO.bind ?_ (fun _ => ?_))
      | exact ih0 _ _ _
      | exact LeO.none _
      | refine LeO.ite ?_ ?_
      | refine LeO.bind ?_ (fun _ => ?_)
set_option maxHeartbeats 8000000 in
set_option maxRecDepth 100000 in
theorem jsonparser_parseQuotedPathKey.calls (k : Nat) (a0 : ByteArray) (a1 : Int) (r1 : ByteArray) (r2 : Int) (r3 : Option Int) (w : World) (h : jsonparser_parseQuotedPathKey.f k a0 a1 = some (r1, r2, r3)) (hG : Glob w) :
    Calls Tryd.prog 20 #[.string a0, .int .i64 a1] w fun e w' => ∃ evr3 : TypeId × Value, e = .returned (.tuple #[.string r1, .int .i64 r2, errX r3 evr3]) ∧ Below w.heap.size w w' := by
 have hu41 := Tryd.underlying41
 have HB := Aside0.mk (Below.refl w.heap.size w)
 obtain ⟨gt1, gp1, hgv1_⟩ := hG.e1
 have hgv1 := Aside0.mk hgv1_
 clear hgv1_
 obtain ⟨gt2, gp2, hgv2_⟩ := hG.e2
 have hgv2 := Aside0.mk hgv2_
 clear hgv2_
 have HG := Aside0.mk hG
 clear hG
 have H : (jsonparser_parseQuotedPathKey.l0 k a0 (wrap64 (a1 + 1)) (wrap64 (a1 + 1))) = some (r1, r2, r3) := h
 clear h
 have H' := Aside0.mk H
 clear H
 go_enter Tryd.func20, Tryd.ntmps20
 go_wp2
 repeat (go_quiet (fail); try go_wp2)
 try simp only [Act.put, List.setIfInBounds_toArray, List.set_cons_succ, List.set_cons_zero]
 go_loopg [8] k (fun kq v8 w' => ∃ (x8_1 : Int), v8 = .int .i64 x8_1 ∧ Aside0 (jsonparser_parseQuotedPathKey.l0 kq a0 (wrap64 (a1 + 1)) x8_1 = some (r1, r2, r3)) ∧ Aside0 (kq ≤ k) ∧ Aside0 (Below w.heap.size w w'))
 case atStart => exact ⟨(wrap64 (a1 + 1)), (by first | rfl | (simp; done) | (simp [nil_ne_, nil_eq_]; done) | (simp [*]; done)), H', ⟨Nat.le_refl _⟩, ⟨by repeat (first | (with_reducible first | exact HB.out | apply below_alloc | apply pw_below_drewN | apply below_drew1) | exact HB.out)⟩⟩
 case round =>
  clear H'
  try clear p1
  try clear c2
  try clear p2
  obtain ⟨x8_1, rfl, HA, HK1, HB⟩ := hrel
  cases gk with
  | zero => exact absurd HA.out (by simp [jsonparser_parseQuotedPathKey.l0])
  | succ k1 =>
   have H := HA.out
   clear HA
   simp only [jsonparser_parseQuotedPathKey.l0] at H
   by_cases c3 : x8_1 < (a0.size : Int)
   ·
    rw [if_pos c3] at H
    have c3b0 : decide (x8_1 < (a0.size : Int)) = true := decide_eq_true c3
    clear c3
    by_cases c4 : 0 ≤ x8_1
    ·
     rw [if_pos c4] at H
     have c4b0 : decide (0 ≤ x8_1) = true := decide_eq_true c4
     clear c4
     by_cases c6 : (bt a0 x8_1) = 92
     ·
      rw [if_pos c6] at H
      have c6b0 : ((bt a0 x8_1) == 92) = true := beq_iff_eq.mpr c6
      have c6b1 : ((bt a0 x8_1) != 92) = false := bne_eq_false_iff_eq.mpr c6
      clear c6
      by_cases c7 : (wrap64 (x8_1 + 1)) ≥ (a0.size : Int)
      ·
       rw [if_pos c7] at H
       have c7b0 : decide ((a0.size : Int) ≤ (wrap64 (x8_1 + 1))) = true := decide_eq_true c7
       clear c7
       simp only [Option.some.injEq, Prod.mk.injEq] at H
       obtain ⟨rfl, rfl, rfl⟩ := H
       have p5 : 0 ≤ (x8_1 : Int) := of_decide_eq_true (by first | (with_reducible assumption) | assumption)
       have q5 : x8_1 < (a0.size : Int) := of_decide_eq_true (by first | (with_reducible assumption) | assumption)
       have hx5 := bt_at a0 x8_1
       replace p5 := eq_true p5
       replace q5 := eq_true q5
       have hgl8 : wr.cell? ⟨2, 0, none⟩ = some (.iface gt2 gp2) := ((show Below w.heap.size w wr from HB.out).cell (World.block_lt_of_cell? w _ hgv2.out)).trans hgv2.out
       go_wp2
       repeat (go_quiet (fail); try go_wp2)
       go_ret3
       first | exact ⟨(gt2, gp2), by first | rfl | (simp [errX_none, errX_some] <;> rfl) | (simp [*, errX_none, errX_some] <;> rfl), by repeat (first | (with_reducible first | exact HB.out | apply below_alloc | apply pw_below_drewN | apply below_drew1) | exact HB.out)⟩ | exact ⟨⟨((gt2, gp2)).1, ((gt2, gp2)).2, by first | rfl | (simp [errX_none, errX_some] <;> rfl) | (simp [*, errX_none, errX_some] <;> rfl)⟩, by repeat (first | (with_reducible first | exact HB.out | apply below_alloc | apply pw_below_drewN | apply below_drew1) | exact HB.out)⟩
      ·
       rw [if_neg c7] at H
       have c7b0 : decide ((a0.size : Int) ≤ (wrap64 (x8_1 + 1))) = false := decide_eq_false c7
       clear c7
       have H' := Aside0.mk H
       clear H
       have p5 : 0 ≤ (x8_1 : Int) := of_decide_eq_true (by first | (with_reducible assumption) | assumption)
       have q5 : x8_1 < (a0.size : Int) := of_decide_eq_true (by first | (with_reducible assumption) | assumption)
       have hx5 := bt_at a0 x8_1
       replace p5 := eq_true p5
       replace q5 := eq_true q5
       go_wp2
       repeat (go_quiet (fail); try go_wp2)
       go_roundg k1
       case measure => have := HK1.out; omega
       case rel => exact ⟨(wrap64 ((wrap64 (x8_1 + 1)) + 1)), (by first | rfl | (simp; done) | (simp [nil_ne_, nil_eq_]; done) | (simp [*]; done)), H', ⟨by have := HK1.out; omega⟩, ⟨by repeat (first | (with_reducible first | exact HB.out | apply below_alloc | apply pw_below_drewN | apply below_drew1) | exact HB.out)⟩⟩
     ·
      rw [if_neg c6] at H
      have c6b0 : ((bt a0 x8_1) == 92) = false := beq_eq_false_iff_ne.mpr c6
      have c6b1 : ((bt a0 x8_1) != 92) = true := bne_iff_ne.mpr c6
      by_cases c9 : (bt a0 x8_1) = 34
      ·
       rw [if_pos c9] at H
       have c9b0 : ((bt a0 x8_1) == 34) = true := beq_iff_eq.mpr c9
       have c9b1 : ((bt a0 x8_1) != 34) = false := bne_eq_false_iff_eq.mpr c9
       clear c9
       obtain ⟨ji10, hji10⟩ : ∃ j_ : Int, (wrap64 (a1 + 1)) = j_ := ⟨_, rfl⟩
       replace H : (if 0 ≤ (ji10) then (if (ji10) ≤ x8_1 then (if x8_1 ≤ (a0.size : Int) then ((strings_IndexByte.f (a0.extract ((ji10) : Int).toNat (x8_1 : Int).toNat) 92).bind fun t151 => (if t151 = (-1) then (some (a0.extract ((ji10) : Int).toNat (x8_1 : Int).toNat, wrap64 (x8_1 + 1), none)) else (if (a0.extract ((ji10) : Int).toNat (x8_1 : Int).toNat).size ≤ 140737488355328 then ((jsonparser_Unescape.f (bytesOf (a0.extract ((ji10) : Int).toNat (x8_1 : Int).toNat)) ([] : List Int)).bind fun bt155 => (if bt155.2.isNone = true then (some (strOfNums bt155.1, wrap64 (x8_1 + 1), none)) else (some ((⟨#[]⟩ : ByteArray), 0, some 1)))) else (none)))) else (none)) else (none)) else (none)) = some (r1, r2, r3) := by first | (rw [hji10] at H; exact H) | (simp only [hji10] at H ⊢; exact H)
       have hji10w : (IntKind.i64.wrap (a1 + 1)) = ji10 := (i64_w _).trans hji10
       by_cases c11 : 0 ≤ (ji10)
       ·
        rw [if_pos c11] at H
        have c11b0 := eq_true c11
        have c11b1 : decide (0 ≤ (ji10)) = true := decide_eq_true c11
        clear c11
        by_cases c12 : (ji10) ≤ x8_1
        ·
         rw [if_pos c12] at H
         have c12b0 := eq_true c12
         have c12b1 : decide ((ji10) ≤ x8_1) = true := decide_eq_true c12
         clear c12
         by_cases c13 : x8_1 ≤ (a0.size : Int)
         ·
          rw [if_pos c13] at H
          have c13b0 := eq_true c13
          have c13b1 : decide (x8_1 ≤ (a0.size : Int)) = true := decide_eq_true c13
          clear c13
          replace H := Option.bind_eq_some_iff.mp H
          obtain ⟨t151, A140, H⟩ := H
          replace H : (if t151 = (-1) then (some (a0.extract ((ji10) : Int).toNat (x8_1 : Int).toNat, wrap64 (x8_1 + 1), none)) else (if (a0.extract ((ji10) : Int).toNat (x8_1 : Int).toNat).size ≤ 140737488355328 then ((jsonparser_Unescape.f (bytesOf (a0.extract ((ji10) : Int).toNat (x8_1 : Int).toNat)) ([] : List Int)).bind fun bt155 => (if bt155.2.isNone = true then (some (strOfNums bt155.1, wrap64 (x8_1 + 1), none)) else (some ((⟨#[]⟩ : ByteArray), 0, some 1)))) else (none))) = some (r1, r2, r3) := H
          have A14 := Aside0.mk A140
          clear A140
          by_cases c15 : t151 = (-1)
          ·
           rw [if_pos c15] at H
           have c15b0 : (t151 == (-1)) = true := beq_iff_eq.mpr c15
           have c15b1 : (t151 != (-1)) = false := bne_eq_false_iff_eq.mpr c15
           clear c15
           simp only [Option.some.injEq, Prod.mk.injEq] at H
           obtain ⟨rfl, rfl, rfl⟩ := H
           have p5 : 0 ≤ (x8_1 : Int) := of_decide_eq_true (by first | (with_reducible assumption) | assumption)
           have q5 : x8_1 < (a0.size : Int) := of_decide_eq_true (by first | (with_reducible assumption) | assumption)
           have hx5 := bt_at a0 x8_1
           replace p5 := eq_true p5
           replace q5 := eq_true q5
           go_wp2_with (first | (go_at_call 27; (with_reducible refine (strings_IndexByte.calls (a0.extract ((ji10) : Int).toNat (x8_1 : Int).toNat) 92 t151 _ A14.out).mono ?_); rintro e w' ⟨rfl, ⟨nd, rfl⟩⟩; (try first | ((with_reducible refine ⟨?_, _, World.drewN_drewN _ _ _⟩); rfl) | ((with_reducible refine ⟨?_, _, Eq.trans (World.drewN_drewN _ _ _) (congrArg (World.drewN _) (Nat.add_assoc _ _ _))⟩); rfl))))
           repeat (go_quiet (first | (go_at_call 27; (with_reducible refine (strings_IndexByte.calls (a0.extract ((ji10) : Int).toNat (x8_1 : Int).toNat) 92 t151 _ A14.out).mono ?_); rintro e w' ⟨rfl, ⟨nd, rfl⟩⟩; (try first | ((with_reducible refine ⟨?_, _, World.drewN_drewN _ _ _⟩); rfl) | ((with_reducible refine ⟨?_, _, Eq.trans (World.drewN_drewN _ _ _) (congrArg (World.drewN _) (Nat.add_assoc _ _ _))⟩); rfl)))); try go_wp2_with (first | (go_at_call 27; (with_reducible refine (strings_IndexByte.calls (a0.extract ((ji10) : Int).toNat (x8_1 : Int).toNat) 92 t151 _ A14.out).mono ?_); rintro e w' ⟨rfl, ⟨nd, rfl⟩⟩; (try first | ((with_reducible refine ⟨?_, _, World.drewN_drewN _ _ _⟩); rfl) | ((with_reducible refine ⟨?_, _, Eq.trans (World.drewN_drewN _ _ _) (congrArg (World.drewN _) (Nat.add_assoc _ _ _))⟩); rfl)))))
           go_ret3
           first | exact ⟨(0, Value.nilIface), by first | rfl | (simp [errX_none, errX_some] <;> rfl) | (simp only [← hji10]; first | rfl | (simp [errX_none, errX_some] <;> rfl)) | (simp [*, errX_none, errX_some] <;> rfl), by repeat (first | (with_reducible first | exact HB.out | apply below_alloc | apply pw_below_drewN | apply below_drew1) | exact HB.out)⟩ | exact ⟨⟨((0, Value.nilIface)).1, ((0, Value.nilIface)).2, by first | rfl | (simp [errX_none, errX_some] <;> rfl) | (simp only [← hji10]; first | rfl | (simp [errX_none, errX_some] <;> rfl)) | (simp [*, errX_none, errX_some] <;> rfl)⟩, by repeat (first | (with_reducible first | exact HB.out | apply below_alloc | apply pw_below_drewN | apply below_drew1) | exact HB.out)⟩
          ·
           rw [if_neg c15] at H
           have c15b0 : (t151 == (-1)) = false := beq_eq_false_iff_ne.mpr c15
           have c15b1 : (t151 != (-1)) = true := bne_iff_ne.mpr c15
           by_cases c16 : (a0.extract ((ji10) : Int).toNat (x8_1 : Int).toNat).size ≤ 140737488355328
           ·
            rw [if_pos c16] at H
            have c16b0 := eq_true c16
            have c16b1 : decide ((a0.extract ((ji10) : Int).toNat (x8_1 : Int).toNat).size ≤ 140737488355328) = true := decide_eq_true c16
            clear c16
            obtain ⟨y152, hy152⟩ : ∃ y_ : List Int, y_ = (bytesOf (a0.extract ((ji10) : Int).toNat (x8_1 : Int).toNat)) := ⟨_, rfl⟩
            replace H : ((jsonparser_Unescape.f y152 ([] : List Int)).bind fun bt155 => (if bt155.2.isNone = true then (some (strOfNums bt155.1, wrap64 (x8_1 + 1), none)) else (some ((⟨#[]⟩ : ByteArray), 0, some 1)))) = some (r1, r2, r3) := by first | (rw [hy152]; with_reducible exact H) | (have H2_ := (Option.bind_some _ _).symm.trans H; rw [hy152]; with_reducible exact H2_) | (have H2_ := (Option.bind_some _ _).symm.trans H; with_reducible exact H2_) | with_reducible exact H | (rw [hy152]; exact H) | exact H
            have Ny152 := Aside0.mk hy152
            clear hy152
            replace H := Option.bind_eq_some_iff.mp H
            obtain ⟨⟨t155, t156⟩, A170, H⟩ := H
            replace H : (if t156.isNone = true then (some (strOfNums t155, wrap64 (x8_1 + 1), none)) else (some ((⟨#[]⟩ : ByteArray), 0, some 1))) = some (r1, r2, r3) := H
            have A17 := Aside0.mk A170
            clear A170
            rcases t156 with _ | q159
            ·
             have H1 : (some (strOfNums t155, wrap64 (x8_1 + 1), none)) = some (r1, r2, r3) := by rw [if_pos (show (none : Option Int).isNone = true by rfl)] at H; exact H
             clear H
             have H := H1
             clear H1
             try simp only [errX_none, errX_some]
             simp only [Option.some.injEq, Prod.mk.injEq] at H
             obtain ⟨rfl, rfl, rfl⟩ := H
             have p5 : 0 ≤ (x8_1 : Int) := of_decide_eq_true (by first | (with_reducible assumption) | assumption)
             have q5 : x8_1 < (a0.size : Int) := of_decide_eq_true (by first | (with_reducible assumption) | assumption)
             have hx5 := bt_at a0 x8_1
             replace p5 := eq_true p5
             replace q5 := eq_true q5
             iterate 6 (try go_wp2_with (first | (go_at_call 27; (with_reducible refine (strings_IndexByte.calls (a0.extract ((ji10) : Int).toNat (x8_1 : Int).toNat) 92 t151 _ A14.out).mono ?_); rintro e w' ⟨rfl, ⟨nd, rfl⟩⟩; (try first | ((with_reducible refine ⟨?_, _, World.drewN_drewN _ _ _⟩); rfl) | ((with_reducible refine ⟨?_, _, Eq.trans (World.drewN_drewN _ _ _) (congrArg (World.drewN _) (Nat.add_assoc _ _ _))⟩); rfl))) | ((with_reducible refine gate_dst (N := 52) rfl ?_); refine Kd.V_bytes _ 5 rfl (N := 52) rfl 9 23 _ rfl (a0.extract ((ji10) : Int).toNat (x8_1 : Int).toNat) rfl Tryd.underlying9 Tryd.underlying23 Tryd.underlying5 (ok := fun k_ => wr.heap.size ≤ k_) (Nat.le_refl _) (Nat.le_trans (of_decide_eq_true (by first | (with_reducible assumption) | assumption) : (a0.extract ((ji10) : Int).toNat (x8_1 : Int).toNat).size ≤ 140737488355328) (by omega)) (Below.refl _ _) (Nat.le_refl _) ?_; intro v153 w18 ho19 hb hg_ hnew_; clear hg_ hnew_; (first | rw [← Ny152.out] at ho19 | (simp only [Int.reduceToNat] at ho19; rw [← Ny152.out] at ho19)); have n0_ := Aside0.mk (Kd.V_lower (Kd.V_mono (ok' := fun k_ => True) ho19 (fun k_ hk_ => trivial)) (below_size (by repeat (first | (with_reducible first | exact HB.out | apply below_alloc | apply pw_below_drewN | apply below_drew1) | exact HB.out)))); have n1_ := Aside0.mk (below_step (by repeat (first | (with_reducible first | exact HB.out | apply below_alloc | apply pw_below_drewN | apply below_drew1) | exact HB.out)) hb); clear HB; have HO154 := n0_; have HB := n1_; clear n0_ n1_; clear hb ho19; obtain ⟨Ao20, co20, eo20⟩ := Kd.V_slice HO154.out; subst eo20) | (go_at_call 28; (refine (jsonparser_Unescape.calls _ _ y152 _ _ ([] : List Int) t155 none _ ?side1 ?side2 ?side3 ?side4 A17.out (HG.out.below (by repeat (first | (with_reducible first | exact HB.out | apply below_alloc | apply pw_below_drewN | apply below_drew1) | exact HB.out)))).mono ?_); (case side1 => repeat (first | exact (Kd.V_reads' HO154.out).2.2 | (with_reducible refine Kd.C_alloc ?_ _) | (with_reducible refine Kd.C_drewN ?_ _) | (with_reducible refine Kd.C_drew ?_))); (case side2 => exact (Kd.V_reads' HO154.out).2.1); (case side3 => exact Kd.C_nil _ _); (case side4 => exact Nat.le_refl _); rintro e w21 ⟨v157, evz_, rfl, ho0, hb⟩; have n0_ := Aside0.mk (Kd.V_elder' (by (with_reducible repeat (first | apply Kd.V_alloc | apply Kd.V_drewN | apply Kd.V_drew)); exact HO154.out) (Kd.R_base ho0) hb); have n1_ := Aside0.mk (Kd.R_lower ho0 (below_size (by repeat (first | (with_reducible first | exact HB.out | apply below_alloc | apply pw_below_drewN | apply below_drew1) | exact HB.out)))); have n2_ := Aside0.mk (below_step (by repeat (first | (with_reducible first | exact HB.out | apply below_alloc | apply pw_below_drewN | apply below_drew1) | exact HB.out)) hb); clear HO154; clear HB; have HO154 := n0_; have HO158 := n1_; have HB := n2_; clear n0_ n1_ n2_; (try clear hb); (try clear hb2); (try clear hk); (try clear hi); (try clear ho0); (try simp only [errX_none, errX_some]); have hcv22 := own_string (P := Tryd.prog) Tryd.underlying23 Tryd.underlying5 Tryd.underlying9 (Kd.own_of_R HO158.out))); try go_quiet (first | (go_at_call 27; (with_reducible refine (strings_IndexByte.calls (a0.extract ((ji10) : Int).toNat (x8_1 : Int).toNat) 92 t151 _ A14.out).mono ?_); rintro e w' ⟨rfl, ⟨nd, rfl⟩⟩; (try first | ((with_reducible refine ⟨?_, _, World.drewN_drewN _ _ _⟩); rfl) | ((with_reducible refine ⟨?_, _, Eq.trans (World.drewN_drewN _ _ _) (congrArg (World.drewN _) (Nat.add_assoc _ _ _))⟩); rfl))) | ((with_reducible refine gate_dst (N := 52) rfl ?_); refine Kd.V_bytes _ 5 rfl (N := 52) rfl 9 23 _ rfl (a0.extract ((ji10) : Int).toNat (x8_1 : Int).toNat) rfl Tryd.underlying9 Tryd.underlying23 Tryd.underlying5 (ok := fun k_ => wr.heap.size ≤ k_) (Nat.le_refl _) (Nat.le_trans (of_decide_eq_true (by first | (with_reducible assumption) | assumption) : (a0.extract ((ji10) : Int).toNat (x8_1 : Int).toNat).size ≤ 140737488355328) (by omega)) (Below.refl _ _) (Nat.le_refl _) ?_; intro v153 w18 ho19 hb hg_ hnew_; clear hg_ hnew_; (first | rw [← Ny152.out] at ho19 | (simp only [Int.reduceToNat] at ho19; rw [← Ny152.out] at ho19)); have n0_ := Aside0.mk (Kd.V_lower (Kd.V_mono (ok' := fun k_ => True) ho19 (fun k_ hk_ => trivial)) (below_size (by repeat (first | (with_reducible first | exact HB.out | apply below_alloc | apply pw_below_drewN | apply below_drew1) | exact HB.out)))); have n1_ := Aside0.mk (below_step (by repeat (first | (with_reducible first | exact HB.out | apply below_alloc | apply pw_below_drewN | apply below_drew1) | exact HB.out)) hb); clear HB; have HO154 := n0_; have HB := n1_; clear n0_ n1_; clear hb ho19; obtain ⟨Ao20, co20, eo20⟩ := Kd.V_slice HO154.out; subst eo20) | (go_at_call 28; (refine (jsonparser_Unescape.calls _ _ y152 _ _ ([] : List Int) t155 none _ ?side1 ?side2 ?side3 ?side4 A17.out (HG.out.below (by repeat (first | (with_reducible first | exact HB.out | apply below_alloc | apply pw_below_drewN | apply below_drew1) | exact HB.out)))).mono ?_); (case side1 => repeat (first | exact (Kd.V_reads' HO154.out).2.2 | (with_reducible refine Kd.C_alloc ?_ _) | (with_reducible refine Kd.C_drewN ?_ _) | (with_reducible refine Kd.C_drew ?_))); (case side2 => exact (Kd.V_reads' HO154.out).2.1); (case side3 => exact Kd.C_nil _ _); (case side4 => exact Nat.le_refl _); rintro e w21 ⟨v157, evz_, rfl, ho0, hb⟩; have n0_ := Aside0.mk (Kd.V_elder' (by (with_reducible repeat (first | apply Kd.V_alloc | apply Kd.V_drewN | apply Kd.V_drew)); exact HO154.out) (Kd.R_base ho0) hb); have n1_ := Aside0.mk (Kd.R_lower ho0 (below_size (by repeat (first | (with_reducible first | exact HB.out | apply below_alloc | apply pw_below_drewN | apply below_drew1) | exact HB.out)))); have n2_ := Aside0.mk (below_step (by repeat (first | (with_reducible first | exact HB.out | apply below_alloc | apply pw_below_drewN | apply below_drew1) | exact HB.out)) hb); clear HO154; clear HB; have HO154 := n0_; have HO158 := n1_; have HB := n2_; clear n0_ n1_ n2_; (try clear hb); (try clear hb2); (try clear hk); (try clear hi); (try clear ho0); (try simp only [errX_none, errX_some]); have hcv22 := own_string (P := Tryd.prog) Tryd.underlying23 Tryd.underlying5 Tryd.underlying9 (Kd.own_of_R HO158.out))))
             go_ret3
             first | exact ⟨(0, Value.nilIface), by first | rfl | (simp [errX_none, errX_some] <;> rfl) | (simp only [← hji10]; first | rfl | (simp [errX_none, errX_some] <;> rfl)) | (simp [*, errX_none, errX_some] <;> rfl), by repeat (first | (with_reducible first | exact HB.out | apply below_alloc | apply pw_below_drewN | apply below_drew1) | exact HB.out)⟩ | exact ⟨⟨((0, Value.nilIface)).1, ((0, Value.nilIface)).2, by first | rfl | (simp [errX_none, errX_some] <;> rfl) | (simp only [← hji10]; first | rfl | (simp [errX_none, errX_some] <;> rfl)) | (simp [*, errX_none, errX_some] <;> rfl)⟩, by repeat (first | (with_reducible first | exact HB.out | apply below_alloc | apply pw_below_drewN | apply below_drew1) | exact HB.out)⟩
            ·
             have H1 : (some ((⟨#[]⟩ : ByteArray), 0, some 1)) = some (r1, r2, r3) := by rw [if_neg (show ¬ (some q159).isNone = true by simp)] at H; exact H
             clear H
             have H := H1
             clear H1
             try simp only [errX_none, errX_some]
             simp only [Option.some.injEq, Prod.mk.injEq] at H
             obtain ⟨rfl, rfl, rfl⟩ := H
             have p5 : 0 ≤ (x8_1 : Int) := of_decide_eq_true (by first | (with_reducible assumption) | assumption)
             have q5 : x8_1 < (a0.size : Int) := of_decide_eq_true (by first | (with_reducible assumption) | assumption)
             have hx5 := bt_at a0 x8_1
             replace p5 := eq_true p5
             replace q5 := eq_true q5
             iterate 6 (try go_wp2_with (first | (go_at_call 27; (with_reducible refine (strings_IndexByte.calls (a0.extract ((ji10) : Int).toNat (x8_1 : Int).toNat) 92 t151 _ A14.out).mono ?_); rintro e w' ⟨rfl, ⟨nd, rfl⟩⟩; (try first | ((with_reducible refine ⟨?_, _, World.drewN_drewN _ _ _⟩); rfl) | ((with_reducible refine ⟨?_, _, Eq.trans (World.drewN_drewN _ _ _) (congrArg (World.drewN _) (Nat.add_assoc _ _ _))⟩); rfl))) | ((with_reducible refine gate_dst (N := 52) rfl ?_); refine Kd.V_bytes _ 5 rfl (N := 52) rfl 9 23 _ rfl (a0.extract ((ji10) : Int).toNat (x8_1 : Int).toNat) rfl Tryd.underlying9 Tryd.underlying23 Tryd.underlying5 (ok := fun k_ => wr.heap.size ≤ k_) (Nat.le_refl _) (Nat.le_trans (of_decide_eq_true (by first | (with_reducible assumption) | assumption) : (a0.extract ((ji10) : Int).toNat (x8_1 : Int).toNat).size ≤ 140737488355328) (by omega)) (Below.refl _ _) (Nat.le_refl _) ?_; intro v153 w23 ho24 hb hg_ hnew_; clear hg_ hnew_; (first | rw [← Ny152.out] at ho24 | (simp only [Int.reduceToNat] at ho24; rw [← Ny152.out] at ho24)); have n0_ := Aside0.mk (Kd.V_lower (Kd.V_mono (ok' := fun k_ => True) ho24 (fun k_ hk_ => trivial)) (below_size (by repeat (first | (with_reducible first | exact HB.out | apply below_alloc | apply pw_below_drewN | apply below_drew1) | exact HB.out)))); have n1_ := Aside0.mk (below_step (by repeat (first | (with_reducible first | exact HB.out | apply below_alloc | apply pw_below_drewN | apply below_drew1) | exact HB.out)) hb); clear HB; have HO154 := n0_; have HB := n1_; clear n0_ n1_; clear hb ho24; obtain ⟨Ao25, co25, eo25⟩ := Kd.V_slice HO154.out; subst eo25) | (go_at_call 28; (refine (jsonparser_Unescape.calls _ _ y152 _ _ ([] : List Int) t155 (some q159) _ ?side1 ?side2 ?side3 ?side4 A17.out (HG.out.below (by repeat (first | (with_reducible first | exact HB.out | apply below_alloc | apply pw_below_drewN | apply below_drew1) | exact HB.out)))).mono ?_); (case side1 => repeat (first | exact (Kd.V_reads' HO154.out).2.2 | (with_reducible refine Kd.C_alloc ?_ _) | (with_reducible refine Kd.C_drewN ?_ _) | (with_reducible refine Kd.C_drew ?_))); (case side2 => exact (Kd.V_reads' HO154.out).2.1); (case side3 => exact Kd.C_nil _ _); (case side4 => exact Nat.le_refl _); rintro e w26 ⟨v157, evt156, rfl, ho0, hb⟩; have n0_ := Aside0.mk (Kd.V_elder' (by (with_reducible repeat (first | apply Kd.V_alloc | apply Kd.V_drewN | apply Kd.V_drew)); exact HO154.out) (Kd.R_base ho0) hb); have n1_ := Aside0.mk (Kd.R_lower ho0 (below_size (by repeat (first | (with_reducible first | exact HB.out | apply below_alloc | apply pw_below_drewN | apply below_drew1) | exact HB.out)))); have n2_ := Aside0.mk (below_step (by repeat (first | (with_reducible first | exact HB.out | apply below_alloc | apply pw_below_drewN | apply below_drew1) | exact HB.out)) hb); clear HO154; clear HB; have HO154 := n0_; have HO158 := n1_; have HB := n2_; clear n0_ n1_ n2_; (try clear hb); (try clear hb2); (try clear hk); (try clear hi); (try clear ho0); (try simp only [errX_none, errX_some]); have hgl27 : w26.cell? ⟨1, 0, none⟩ = some (.iface gt1 gp1) := ((show Below w.heap.size w w26 from HB.out).cell (World.block_lt_of_cell? w _ hgv1.out)).trans hgv1.out)); try go_quiet (first | (go_at_call 27; (with_reducible refine (strings_IndexByte.calls (a0.extract ((ji10) : Int).toNat (x8_1 : Int).toNat) 92 t151 _ A14.out).mono ?_); rintro e w' ⟨rfl, ⟨nd, rfl⟩⟩; (try first | ((with_reducible refine ⟨?_, _, World.drewN_drewN _ _ _⟩); rfl) | ((with_reducible refine ⟨?_, _, Eq.trans (World.drewN_drewN _ _ _) (congrArg (World.drewN _) (Nat.add_assoc _ _ _))⟩); rfl))) | ((with_reducible refine gate_dst (N := 52) rfl ?_); refine Kd.V_bytes _ 5 rfl (N := 52) rfl 9 23 _ rfl (a0.extract ((ji10) : Int).toNat (x8_1 : Int).toNat) rfl Tryd.underlying9 Tryd.underlying23 Tryd.underlying5 (ok := fun k_ => wr.heap.size ≤ k_) (Nat.le_refl _) (Nat.le_trans (of_decide_eq_true (by first | (with_reducible assumption) | assumption) : (a0.extract ((ji10) : Int).toNat (x8_1 : Int).toNat).size ≤ 140737488355328) (by omega)) (Below.refl _ _) (Nat.le_refl _) ?_; intro v153 w23 ho24 hb hg_ hnew_; clear hg_ hnew_; (first | rw [← Ny152.out] at ho24 | (simp only [Int.reduceToNat] at ho24; rw [← Ny152.out] at ho24)); have n0_ := Aside0.mk (Kd.V_lower (Kd.V_mono (ok' := fun k_ => True) ho24 (fun k_ hk_ => trivial)) (below_size (by repeat (first | (with_reducible first | exact HB.out | apply below_alloc | apply pw_below_drewN | apply below_drew1) | exact HB.out)))); have n1_ := Aside0.mk (below_step (by repeat (first | (with_reducible first | exact HB.out | apply below_alloc | apply pw_below_drewN | apply below_drew1) | exact HB.out)) hb); clear HB; have HO154 := n0_; have HB := n1_; clear n0_ n1_; clear hb ho24; obtain ⟨Ao25, co25, eo25⟩ := Kd.V_slice HO154.out; subst eo25) | (go_at_call 28; (refine (jsonparser_Unescape.calls _ _ y152 _ _ ([] : List Int) t155 (some q159) _ ?side1 ?side2 ?side3 ?side4 A17.out (HG.out.below (by repeat (first | (with_reducible first | exact HB.out | apply below_alloc | apply pw_below_drewN | apply below_drew1) | exact HB.out)))).mono ?_); (case side1 => repeat (first | exact (Kd.V_reads' HO154.out).2.2 | (with_reducible refine Kd.C_alloc ?_ _) | (with_reducible refine Kd.C_drewN ?_ _) | (with_reducible refine Kd.C_drew ?_))); (case side2 => exact (Kd.V_reads' HO154.out).2.1); (case side3 => exact Kd.C_nil _ _); (case side4 => exact Nat.le_refl _); rintro e w26 ⟨v157, evt156, rfl, ho0, hb⟩; have n0_ := Aside0.mk (Kd.V_elder' (by (with_reducible repeat (first | apply Kd.V_alloc | apply Kd.V_drewN | apply Kd.V_drew)); exact HO154.out) (Kd.R_base ho0) hb); have n1_ := Aside0.mk (Kd.R_lower ho0 (below_size (by repeat (first | (with_reducible first | exact HB.out | apply below_alloc | apply pw_below_drewN | apply below_drew1) | exact HB.out)))); have n2_ := Aside0.mk (below_step (by repeat (first | (with_reducible first | exact HB.out | apply below_alloc | apply pw_below_drewN | apply below_drew1) | exact HB.out)) hb); clear HO154; clear HB; have HO154 := n0_; have HO158 := n1_; have HB := n2_; clear n0_ n1_ n2_; (try clear hb); (try clear hb2); (try clear hk); (try clear hi); (try clear ho0); (try simp only [errX_none, errX_some]); have hgl27 : w26.cell? ⟨1, 0, none⟩ = some (.iface gt1 gp1) := ((show Below w.heap.size w w26 from HB.out).cell (World.block_lt_of_cell? w _ hgv1.out)).trans hgv1.out)))
             go_ret3
             first | exact ⟨(gt1, gp1), by first | rfl | (simp [errX_none, errX_some] <;> rfl) | (simp only [← hji10]; first | rfl | (simp [errX_none, errX_some] <;> rfl)) | (simp [*, errX_none, errX_some] <;> rfl), by repeat (first | (with_reducible first | exact HB.out | apply below_alloc | apply pw_below_drewN | apply below_drew1) | exact HB.out)⟩ | exact ⟨⟨((gt1, gp1)).1, ((gt1, gp1)).2, by first | rfl | (simp [errX_none, errX_some] <;> rfl) | (simp only [← hji10]; first | rfl | (simp [errX_none, errX_some] <;> rfl)) | (simp [*, errX_none, errX_some] <;> rfl)⟩, by repeat (first | (with_reducible first | exact HB.out | apply below_alloc | apply pw_below_drewN | apply below_drew1) | exact HB.out)⟩
           ·
            rw [if_neg c16] at H
            exact absurd H (by simp)
         ·
          rw [if_neg c13] at H
          exact absurd H (by simp)
        ·
         rw [if_neg c12] at H
         exact absurd H (by simp)
       ·
        rw [if_neg c11] at H
        exact absurd H (by simp)
      ·
       rw [if_neg c9] at H
       have c9b0 : ((bt a0 x8_1) == 34) = false := beq_eq_false_iff_ne.mpr c9
       have c9b1 : ((bt a0 x8_1) != 34) = true := bne_iff_ne.mpr c9
       by_cases c29 : (bt a0 x8_1) < 32
       ·
        rw [if_pos c29] at H
        have c29b0 : decide ((bt a0 x8_1) < 32) = true := decide_eq_true c29
        clear c29
        simp only [Option.some.injEq, Prod.mk.injEq] at H
        obtain ⟨rfl, rfl, rfl⟩ := H
        have p5 : 0 ≤ (x8_1 : Int) := of_decide_eq_true (by first | (with_reducible assumption) | assumption)
        have q5 : x8_1 < (a0.size : Int) := of_decide_eq_true (by first | (with_reducible assumption) | assumption)
        have hx5 := bt_at a0 x8_1
        replace p5 := eq_true p5
        replace q5 := eq_true q5
        have p28 : 0 ≤ (x8_1 : Int) := of_decide_eq_true (by first | (with_reducible assumption) | assumption)
        have q28 : x8_1 < (a0.size : Int) := of_decide_eq_true (by first | (with_reducible assumption) | assumption)
        have hx28 := bt_at a0 x8_1
        replace p28 := eq_true p28
        replace q28 := eq_true q28
        have hgl30 : wr.cell? ⟨1, 0, none⟩ = some (.iface gt1 gp1) := ((show Below w.heap.size w wr from HB.out).cell (World.block_lt_of_cell? w _ hgv1.out)).trans hgv1.out
        go_wp2
        repeat (go_quiet (fail); try go_wp2)
        go_ret3
        first | exact ⟨(gt1, gp1), by first | rfl | (simp [errX_none, errX_some] <;> rfl) | (simp [*, errX_none, errX_some] <;> rfl), by repeat (first | (with_reducible first | exact HB.out | apply below_alloc | apply pw_below_drewN | apply below_drew1) | exact HB.out)⟩ | exact ⟨⟨((gt1, gp1)).1, ((gt1, gp1)).2, by first | rfl | (simp [errX_none, errX_some] <;> rfl) | (simp [*, errX_none, errX_some] <;> rfl)⟩, by repeat (first | (with_reducible first | exact HB.out | apply below_alloc | apply pw_below_drewN | apply below_drew1) | exact HB.out)⟩
       ·
        rw [if_neg c29] at H
        have c29b0 : decide ((bt a0 x8_1) < 32) = false := decide_eq_false c29
        clear c29
        have H' := Aside0.mk H
        clear H
        have p5 : 0 ≤ (x8_1 : Int) := of_decide_eq_true (by first | (with_reducible assumption) | assumption)
        have q5 : x8_1 < (a0.size : Int) := of_decide_eq_true (by first | (with_reducible assumption) | assumption)
        have hx5 := bt_at a0 x8_1
        replace p5 := eq_true p5
        replace q5 := eq_true q5
        have p28 : 0 ≤ (x8_1 : Int) := of_decide_eq_true (by first | (with_reducible assumption) | assumption)
        have q28 : x8_1 < (a0.size : Int) := of_decide_eq_true (by first | (with_reducible assumption) | assumption)
        have hx28 := bt_at a0 x8_1
        replace p28 := eq_true p28
        replace q28 := eq_true q28
        go_wp2
        repeat (go_quiet (fail); try go_wp2)
        go_roundg k1
        case measure => have := HK1.out; omega
        case rel => exact ⟨(wrap64 (x8_1 + 1)), (by first | rfl | (simp; done) | (simp [nil_ne_, nil_eq_]; done) | (simp [*]; done)), H', ⟨by have := HK1.out; omega⟩, ⟨by repeat (first | (with_reducible first | exact HB.out | apply below_alloc | apply pw_below_drewN | apply below_drew1) | exact HB.out)⟩⟩
    ·
     rw [if_neg c4] at H
     exact absurd H (by simp)
   ·
    rw [if_neg c3] at H
    have c3b0 : decide (x8_1 < (a0.size : Int)) = false := decide_eq_false c3
    clear c3
    simp only [Option.some.injEq, Prod.mk.injEq] at H
    obtain ⟨rfl, rfl, rfl⟩ := H
    have hgl31 : wr.cell? ⟨2, 0, none⟩ = some (.iface gt2 gp2) := ((show Below w.heap.size w wr from HB.out).cell (World.block_lt_of_cell? w _ hgv2.out)).trans hgv2.out
    go_wp2
    repeat (go_quiet (fail); try go_wp2)
    go_ret3
    first | exact ⟨(gt2, gp2), by first | rfl | (simp [errX_none, errX_some] <;> rfl) | (simp [*, errX_none, errX_some] <;> rfl), by repeat (first | (with_reducible first | exact HB.out | apply below_alloc | apply pw_below_drewN | apply below_drew1) | exact HB.out)⟩ | exact ⟨⟨((gt2, gp2)).1, ((gt2, gp2)).2, by first | rfl | (simp [errX_none, errX_some] <;> rfl) | (simp [*, errX_none, errX_some] <;> rfl)⟩, by repeat (first | (with_reducible first | exact HB.out | apply below_alloc | apply pw_below_drewN | apply below_drew1) | exact HB.out)⟩

end Go.Proofs.YtobmnfbplmefoaaDoor.PFnJqPathOf
