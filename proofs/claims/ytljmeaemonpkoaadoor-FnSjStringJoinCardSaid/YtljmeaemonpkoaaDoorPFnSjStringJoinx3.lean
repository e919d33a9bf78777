-- Written by a program of this session (wip/prx) out of the print of the loaded functions.
import Derived.Test.YtljmeaemonpkoaaDoorPFnSjStringJoinx0
import Derived.Test.YtljmeaemonpkoaaDoorGUFnSjStringJoin
import Derived.Test.YtljmeaemonpkoaaDoorHUFnSjStringJoin
import Derived.Test.YtljmeaemonpkoaaDoorWSFnSjStringJoin
namespace Go.Proofs.YtljmeaemonpkoaaDoor.PFnSjStringJoin
open Go.RowKit Go.Proofs.YtljmeaemonpkoaaDoorW.PrintWords Go.Proofs.YtljmeaemonpkoaaDoorW.PrintLast Go.Proofs.YtljmeaemonpkoaaDoorW.PrintMore
attribute [local go_sem] max2_int min2_int max_two min_two max_three min_three max_four min_four   -- for this text's walks alone
set_option linter.unusedVariables false
set_option linter.unusedSimpArgs false

/-! ### sjson_zzMarshal: function 43 -/
mutual
def sjson_zzMarshal.l0 : Nat → List Int → ByteArray → Int → Option (List Int)
  | 0, _, _, _ => none
  | k + 1, x0, x1, x5 => if x5 < (x1.size : Int) then (if 0 ≤ x5 then (if (bt x1 x5) < 128 then (if (bt x1 x5) = 34 then (sjson_zzMarshal.j1 k x0 x1 (wrap64 (x5 + 1)) (bt x1 x5) true) else (sjson_zzMarshal.j1 k x0 x1 (wrap64 (x5 + 1)) (bt x1 x5) ((bt x1 x5) == 92))) else (if x5 ≤ (x1.size : Int) then ((utf8_DecodeRuneInString.f (x1.extract (x5 : Int).toNat x1.size)).bind fun bt175 => (if bt175.1 = 65533 then (sjson_zzMarshal.j2 k x0 x1 x5 bt175.1 bt175.2 (bt175.2 == 1)) else (sjson_zzMarshal.j2 k x0 x1 x5 bt175.1 bt175.2 false))) else (none))) else (none)) else (if x0.length < 140737488355328 then (some (x0 ++ [34])) else (none))
def sjson_zzMarshal.j1 : Nat → List Int → ByteArray → Int → Int → Bool → Option (List Int)
  | 0, _, _, _, _, _ => none
  | k + 1, x0, x1, x5, x6, x27 => if x27 = true then ((some (([92, x6] : List Int) : List Int)).bind fun y112 => (if x0.length + y112.length < 140737488355328 then (sjson_zzMarshal.l0 k (x0 ++ y112) x1 x5) else (none))) else (if x6 = 8 then ((some (([92, 98] : List Int) : List Int)).bind fun y118 => (if x0.length + y118.length < 140737488355328 then (sjson_zzMarshal.l0 k (x0 ++ y118) x1 x5) else (none))) else (if x6 = 12 then ((some (([92, 102] : List Int) : List Int)).bind fun y124 => (if x0.length + y124.length < 140737488355328 then (sjson_zzMarshal.l0 k (x0 ++ y124) x1 x5) else (none))) else (if x6 = 10 then ((some (([92, 110] : List Int) : List Int)).bind fun y130 => (if x0.length + y130.length < 140737488355328 then (sjson_zzMarshal.l0 k (x0 ++ y130) x1 x5) else (none))) else (if x6 = 13 then ((some (([92, 114] : List Int) : List Int)).bind fun y136 => (if x0.length + y136.length < 140737488355328 then (sjson_zzMarshal.l0 k (x0 ++ y136) x1 x5) else (none))) else (if x6 = 9 then ((some (([92, 116] : List Int) : List Int)).bind fun y142 => (if x0.length + y142.length < 140737488355328 then (sjson_zzMarshal.l0 k (x0 ++ y142) x1 x5) else (none))) else (if x6 < 32 then (if 0 ≤ (x6 / 16) then (if (x6 / 16) < 16 then (if 0 ≤ (Go.bits .and .u8 x6 15) then (if (Go.bits .and .u8 x6 15) < 16 then ((some (([92, 117, 48, 48, bt (⟨#[48, 49, 50, 51, 52, 53, 54, 55, 56, 57, 97, 98, 99, 100, 101, 102]⟩ : ByteArray) (x6 / 16), bt (⟨#[48, 49, 50, 51, 52, 53, 54, 55, 56, 57, 97, 98, 99, 100, 101, 102]⟩ : ByteArray) (Go.bits .and .u8 x6 15)] : List Int) : List Int)).bind fun y148 => (if x0.length + y148.length < 140737488355328 then (sjson_zzMarshal.l0 k (x0 ++ y148) x1 x5) else (none))) else (none)) else (none)) else (none)) else (none)) else (if x6 = 60 then (if 0 ≤ (x6 / 16) then (if (x6 / 16) < 16 then (if 0 ≤ (Go.bits .and .u8 x6 15) then (if (Go.bits .and .u8 x6 15) < 16 then ((some (([92, 117, 48, 48, bt (⟨#[48, 49, 50, 51, 52, 53, 54, 55, 56, 57, 97, 98, 99, 100, 101, 102]⟩ : ByteArray) (x6 / 16), bt (⟨#[48, 49, 50, 51, 52, 53, 54, 55, 56, 57, 97, 98, 99, 100, 101, 102]⟩ : ByteArray) (Go.bits .and .u8 x6 15)] : List Int) : List Int)).bind fun y154 => (if x0.length + y154.length < 140737488355328 then (sjson_zzMarshal.l0 k (x0 ++ y154) x1 x5) else (none))) else (none)) else (none)) else (none)) else (none)) else (if x6 = 62 then (if 0 ≤ (x6 / 16) then (if (x6 / 16) < 16 then (if 0 ≤ (Go.bits .and .u8 x6 15) then (if (Go.bits .and .u8 x6 15) < 16 then ((some (([92, 117, 48, 48, bt (⟨#[48, 49, 50, 51, 52, 53, 54, 55, 56, 57, 97, 98, 99, 100, 101, 102]⟩ : ByteArray) (x6 / 16), bt (⟨#[48, 49, 50, 51, 52, 53, 54, 55, 56, 57, 97, 98, 99, 100, 101, 102]⟩ : ByteArray) (Go.bits .and .u8 x6 15)] : List Int) : List Int)).bind fun y160 => (if x0.length + y160.length < 140737488355328 then (sjson_zzMarshal.l0 k (x0 ++ y160) x1 x5) else (none))) else (none)) else (none)) else (none)) else (none)) else (if x6 = 38 then (if 0 ≤ (x6 / 16) then (if (x6 / 16) < 16 then (if 0 ≤ (Go.bits .and .u8 x6 15) then (if (Go.bits .and .u8 x6 15) < 16 then ((some (([92, 117, 48, 48, bt (⟨#[48, 49, 50, 51, 52, 53, 54, 55, 56, 57, 97, 98, 99, 100, 101, 102]⟩ : ByteArray) (x6 / 16), bt (⟨#[48, 49, 50, 51, 52, 53, 54, 55, 56, 57, 97, 98, 99, 100, 101, 102]⟩ : ByteArray) (Go.bits .and .u8 x6 15)] : List Int) : List Int)).bind fun y166 => (if x0.length + y166.length < 140737488355328 then (sjson_zzMarshal.l0 k (x0 ++ y166) x1 x5) else (none))) else (none)) else (none)) else (none)) else (none)) else (if x0.length < 140737488355328 then (sjson_zzMarshal.l0 k (x0 ++ [x6]) x1 x5) else (none)))))))))))
def sjson_zzMarshal.j2 : Nat → List Int → ByteArray → Int → Int → Int → Bool → Option (List Int)
  | 0, _, _, _, _, _, _ => none
  | k + 1, x0, x1, x5, x7, x8, x107 => if x107 = true then (if x0.length + 6 < 140737488355328 then (sjson_zzMarshal.l0 k (x0 ++ bytesOf (⟨#[92, 117, 102, 102, 102, 100]⟩ : ByteArray)) x1 (wrap64 (x5 + x8))) else (none)) else (if x7 = 8232 then (if 0 ≤ (Go.bits .and .i32 x7 15) then (if (Go.bits .and .i32 x7 15) < 16 then ((some (([92, 117, 50, 48, 50, bt (⟨#[48, 49, 50, 51, 52, 53, 54, 55, 56, 57, 97, 98, 99, 100, 101, 102]⟩ : ByteArray) (Go.bits .and .i32 x7 15)] : List Int) : List Int)).bind fun y180 => (if x0.length + y180.length < 140737488355328 then (sjson_zzMarshal.l0 k (x0 ++ y180) x1 (wrap64 (x5 + x8))) else (none))) else (none)) else (none)) else (if x7 = 8233 then (if 0 ≤ (Go.bits .and .i32 x7 15) then (if (Go.bits .and .i32 x7 15) < 16 then ((some (([92, 117, 50, 48, 50, bt (⟨#[48, 49, 50, 51, 52, 53, 54, 55, 56, 57, 97, 98, 99, 100, 101, 102]⟩ : ByteArray) (Go.bits .and .i32 x7 15)] : List Int) : List Int)).bind fun y186 => (if x0.length + y186.length < 140737488355328 then (sjson_zzMarshal.l0 k (x0 ++ y186) x1 (wrap64 (x5 + x8))) else (none))) else (none)) else (none)) else (if 0 ≤ x5 then (if x5 ≤ (wrap64 (x5 + x8)) then (if (wrap64 (x5 + x8)) ≤ (x1.size : Int) then (if x0.length + (x1.extract (x5 : Int).toNat ((wrap64 (x5 + x8)) : Int).toNat).size < 140737488355328 then (sjson_zzMarshal.l0 k (x0 ++ bytesOf (x1.extract (x5 : Int).toNat ((wrap64 (x5 + x8)) : Int).toNat)) x1 (wrap64 (x5 + x8))) else (none)) else (none)) else (none)) else (none))))
end
def sjson_zzMarshal.f (k : Nat) (l0 : List Int) (a1 : ByteArray) : Option (List Int) := if l0.length < 140737488355328 then (sjson_zzMarshal.l0 k (l0 ++ [34]) a1 0) else (none)
theorem sjson_zzMarshal.mono_l : ∀ k, (∀ y0 y1 y2, LeO (sjson_zzMarshal.l0 k y0 y1 y2) (sjson_zzMarshal.l0 (k + 1) y0 y1 y2)) ∧ (∀ y0 y1 y2 y3 y4, LeO (sjson_zzMarshal.j1 k y0 y1 y2 y3 y4) (sjson_zzMarshal.j1 (k + 1) y0 y1 y2 y3 y4)) ∧ (∀ y0 y1 y2 y3 y4 y5, LeO (sjson_zzMarshal.j2 k y0 y1 y2 y3 y4 y5) (sjson_zzMarshal.j2 (k + 1) y0 y1 y2 y3 y4 y5))
  | 0 => ⟨fun _ _ _ r h => by simp [sjson_zzMarshal.l0] at h, fun _ _ _ _ _ r h => by simp [sjson_zzMarshal.j1] at h, fun _ _ _ _ _ _ r h => by simp [sjson_zzMarshal.j2] at h⟩
  | k + 1 => by
    obtain ⟨ih0, ih1, ih2⟩ := sjson_zzMarshal.mono_l k
    refine ⟨?_, ?_, ?_⟩
    · intro y0 y1 y2
      unfold sjson_zzMarshal.l0
      repeat' first
      | (with_reducible exact ih0 _ _ _)
      | (with_reducible exact ih1 _ _ _ _ _)
      | (with_reducible exact ih2 _ _ _ _ _ _)
      | (with_reducible exact LeO.refl _)
      | (with_reducible exact LeO.none _)
      | (with_reducible refine LeO.ite ?_ ?_)
      | (with_reducible refine LeO.bind ?_ (fun _ => ?_))
      | exact ih0 _ _ _
      | exact ih1 _ _ _ _ _
      | exact ih2 _ _ _ _ _ _
      | exact LeO.none _
      | refine LeO.ite ?_ ?_
      | refine LeO.bind ?_ (fun _ => ?_)
    · intro y0 y1 y2 y3 y4
      unfold sjson_zzMarshal.j1
      repeat' first
      | (with_reducible exact ih0 _ _ _)
      | (with_reducible exact ih1 _ _ _ _ _)
      | (with_reducible exact ih2 _ _ _ _ _ _)
      | (with_reducible exact LeO.refl _)
      | (with_reducible exact LeO.none _)
      | (with_reducible refine LeO.ite ?_ ?_)
      | (with_reducible refine LeO.bind ?_ (fun _ => ?_))
      | exact ih0 _ _ _
      | exact ih1 _ _ _ _ _
      | exact ih2 _ _ _ _ _ _
      | exact LeO.none _
      | refine LeO.ite ?_ ?_
      | refine LeO.bind ?_ (fun _ => ?_)
    · intro y0 y1 y2 y3 y4 y5
      unfold sjson_zzMarshal.j2
      repeat' first
      | (with_reducible exact ih0 _ _ _)
      | (with_reducible exact ih1 _ _ _ _ _)
      | (with_reducible exact ih2 _ _ _ _ _ _)
      | (with_reducible exact LeO.refl _)
      | (with_reducible exact LeO.none _)
      | (with_reducible refine LeO.ite ?_ ?_)
      | (with_reducible refine LeO.bind ?_ (fun _ => ?_))
      | exact ih0 _ _ _
      | exact ih1 _ _ _ _ _
      | exact ih2 _ _ _ _ _ _
      | exact LeO.none _
      | refine LeO.ite ?_ ?_
      | refine LeO.bind ?_ (fun _ => ?_)
theorem sjson_zzMarshal.mono : ∀ a0 a1 k, LeO (sjson_zzMarshal.f k a0 a1) (sjson_zzMarshal.f (k + 1) a0 a1) := by
  intro a0 a1 k
  obtain ⟨ih0, ih1, ih2⟩ := sjson_zzMarshal.mono_l k
  unfold sjson_zzMarshal.f
  repeat' first
      | (with_reducible exact ih0 _ _ _)
      | (with_reducible exact ih1 _ _ _ _ _)
      | (with_reducible exact ih2 _ _ _ _ _ _)
      | (with_reducible exact LeO.refl _)
      | (with_reducible exact LeO.none _)
      | (with_reducible refine LeO.ite ?_ ?_)
      | (with_reducible refine LeO.bind ?_ (fun _ => ?_))
      | exact ih0 _ _ _
      | exact ih1 _ _ _ _ _
      | exact ih2 _ _ _ _ _ _
      | exact LeO.none _
      | refine LeO.ite ?_ ?_
      | refine LeO.bind ?_ (fun _ => ?_)
def sjson_zzMarshal.T21 : Bool × List (List Nat × List Nat) := (true, [([], []), ([], []), ([1], [1]), ([2], [2]), ([], []), ([4], [4]), ([5], [5]), ([3, 6], [3, 6]), ([0, 7], [0, 7]), ([8, 8, 0, 1, 2, 3, 4, 5, 6, 7, 8], [0, 8])])
def sjson_zzMarshal.B21 : List Nat := [0, 0, 2, 6, 0, 16, 48, 126, 255, 511]
theorem sjson_zzMarshal.tab21 : rtab .any (opsOf Tryd.f43 21) = sjson_zzMarshal.T21 := by kernel_rfl
theorem sjson_zzMarshal.bits21 : waitsOk sjson_zzMarshal.T21.2 sjson_zzMarshal.B21 = true := by kernel_rfl
set_option maxHeartbeats 8000000 in
set_option maxRecDepth 100000 in
theorem sjson_zzMarshal.calls (k : Nat) (P0_ : Nat → Prop) (u9000_ : Value) (l0 : List Int) (a1 : ByteArray) (r : List Int) (w0 w : World) (hB : Below w0.heap.size w0 w) (ho0 : Kd.R (Kd.int .u8) 5 w w0.heap.size P0_ u9000_ l0) (h : sjson_zzMarshal.f k l0 a1 = some r) (hG : Glob w0) :
    Calls Tryd.prog 43 #[u9000_, .string a1] w fun e w' => ∃ v0_ : Value, e = .returned (v0_) ∧ Kd.R (Kd.int .u8) 5 w' w0.heap.size (fun k_ => (P0_ k_ ∨ w.heap.size ≤ k_)) v0_ r ∧ Below w0.heap.size w0 w' ∧ Kept w w' (fun k_ => P0_ k_) := by
 have HO0 := Aside0.mk (show Kd.R (Kd.int .u8) 5 w w0.heap.size (fun k_ => (P0_ k_ ∨ w.heap.size ≤ k_)) u9000_ l0 from Kd.R_mono ho0 (fun k_ hk => (.inl hk)))
 have HK := Aside0.mk (Kept.refl w (fun k_ => P0_ k_))
 have HW0 := Aside0.mk hB.size
 have HB := Aside0.mk hB
 clear hB
 have HG := Aside0.mk hG
 clear hG
 have H : (if l0.length < 140737488355328 then (sjson_zzMarshal.l0 k (l0 ++ [34]) a1 0) else (none)) = some r := h
 clear h
 by_cases c3 : l0.length < 140737488355328
 ·
  rw [if_pos c3] at H
  have LMc3 := Aside0.mk c3
  clear c3
  obtain ⟨y106, hy106⟩ : ∃ y_ : List Int, y_ = (l0 ++ [34]) := ⟨_, rfl⟩
  replace H : (sjson_zzMarshal.l0 k y106 a1 0) = some r := by first | (rw [hy106]; with_reducible exact H) | (have H2_ := (Option.bind_some _ _).symm.trans H; rw [hy106]; with_reducible exact H2_) | (have H2_ := (Option.bind_some _ _).symm.trans H; with_reducible exact H2_) | with_reducible exact H | (rw [hy106]; exact H) | exact H
  have Ny106 := Aside0.mk hy106
  clear hy106
  have H' := Aside0.mk H
  clear H
  go_enter Tryd.func43, Tryd.ntmps43
  go_wp2_with (first | ((with_reducible refine gate_builtin (b := .append) (xs := #[.tmp 9, .tmp 10]) rfl ?_); at_builtin; refine Kd.R_append (Kd.int .u8) (w0 := w0) w0.heap.size rfl (.tmp 9) (.tmp 10) 39 5 (.int .u8 0) 1 rfl Tryd.underlying39 info5 rfl (by decide) (by omega) u9000_ l0 34 [.int .u8 34] (fun k_ => (P0_ k_ ∨ w.heap.size ≤ k_)) (fun _ => False) rfl rfl ?aP (fun _ hk => hk.elim) ?aF ?aO ?aB ?aS ?aL ?_; (case aP => exact rfl); (case aB => exact (by repeat (first | (with_reducible first | exact HB.out | apply below_alloc | apply pw_below_drewN | apply below_drew1) | exact HB.out))); (case aF => exact (fun k_ hk => (.inr (Nat.le_trans (by first | exact HK.out.1 | exact (show Kept w _ (fun k_ => P0_ k_) from by repeat (first | (with_reducible first | exact HK.out | apply Kept.alloc | apply Kept.drewN | apply Kept.drew) | exact HK.out)).1) hk)))); (case aO => exact (by (with_reducible repeat (first | apply Kd.R_alloc | apply Kd.R_drewN | apply Kd.R_drew)); exact HO0.out)); (case aS => exact (below_size (by repeat (first | (with_reducible first | exact HB.out | apply below_alloc | apply pw_below_drewN | apply below_drew1) | exact HB.out)))); (case aL => have := LMc3.out; omega); intro v107 w4 ho hb hg hat; rw [← Ny106.out] at ho; have n0_ := Aside0.mk (hb); have n1_ := Aside0.mk (Kept.of_grown (S := (fun k_ => P0_ k_)) hg (by repeat (first | (with_reducible first | exact HK.out | apply Kept.alloc | apply Kept.drewN | apply Kept.drew) | exact HK.out)) (fun k_ e_ => (HO0.out.1 k_ e_))); have n2_ := Aside0.mk (ho); clear HB; clear HK; clear HO0; have HB := n0_; have HK := n1_; have HO108 := n2_; clear n0_ n1_ n2_; clear ho hb hg hat))
  try simp only [Act.put, List.setIfInBounds_toArray, List.set_cons_succ, List.set_cons_zero]
  go_loopg [0, 5] k (fun kq v0 v5 w' => ∃ (x0_1 : List Int) (x5_1 : Int), v5 = .int .i64 x5_1 ∧ Aside0 (sjson_zzMarshal.l0 kq x0_1 a1 x5_1 = some r) ∧ Aside0 (kq ≤ k) ∧ Aside0 (Kd.R (Kd.int .u8) 5 w' w0.heap.size (fun k_ => (P0_ k_ ∨ w.heap.size ≤ k_)) v0 x0_1) ∧ Aside0 (Kept w w' (fun k_ => P0_ k_)) ∧ Aside0 (Below w0.heap.size w0 w'))
  case atStart => exact ⟨(y106), (0), (by first | rfl | (simp; done) | (simp [nil_ne_, nil_eq_]; done) | (simp [*]; done)), H', ⟨Nat.le_refl _⟩, ⟨by (with_reducible repeat (first | apply Kd.R_alloc | apply Kd.R_drewN | apply Kd.R_drew)); exact HO108.out⟩, ⟨by repeat (first | (with_reducible first | exact HK.out | apply Kept.alloc | apply Kept.drewN | apply Kept.drew) | exact HK.out)⟩, ⟨by repeat (first | (with_reducible first | exact HB.out | apply below_alloc | apply pw_below_drewN | apply below_drew1) | exact HB.out)⟩⟩
  case round =>
   clear H'
   try clear p2
   try clear c3
   try clear c4
   obtain ⟨x0_1, x5_1, rfl, HA, HK1, HO_0, HK, HB⟩ := hrel
   cases gk with
   | zero => exact absurd HA.out (by simp [sjson_zzMarshal.l0])
   | succ k1 =>
    have H := HA.out
    clear HA
    simp only [sjson_zzMarshal.l0] at H
    by_cases c5 : x5_1 < (a1.size : Int)
    ·
     rw [if_pos c5] at H
     have c5b0 : decide (x5_1 < (a1.size : Int)) = true := decide_eq_true c5
     clear c5
     by_cases c6 : 0 ≤ x5_1
     ·
      rw [if_pos c6] at H
      have c6b0 : decide (0 ≤ x5_1) = true := decide_eq_true c6
      clear c6
      by_cases c8 : (bt a1 x5_1) < 128
      ·
       rw [if_pos c8] at H
       have c8b0 : decide ((bt a1 x5_1) < 128) = true := decide_eq_true c8
       clear c8
       have HC9 := Aside0.mk H
       clear H
       have p7 : 0 ≤ (x5_1 : Int) := of_decide_eq_true (by first | (with_reducible assumption) | assumption)
       have q7 : x5_1 < (a1.size : Int) := of_decide_eq_true (by first | (with_reducible assumption) | assumption)
       have hx7 := bt_at a1 x5_1
       replace p7 := eq_true p7
       replace q7 := eq_true q7
       go_upto_region 8 with (fail)
       go_cut [27] (fun v27 wc => ∃ (kq : Nat) (x27_8 : Bool), v27 = .bool x27_8 ∧ Aside0 (sjson_zzMarshal.j1 kq x0_1 a1 (wrap64 (x5_1 + 1)) (bt a1 x5_1) x27_8 = some r) ∧ Aside0 (kq ≤ k1) ∧ Aside0 (Kd.R (Kd.int .u8) 5 wc w0.heap.size (fun k_ => (P0_ k_ ∨ w.heap.size ≤ k_)) u0 x0_1) ∧ Aside0 (Kept w wc (fun k_ => P0_ k_)) ∧ Aside0 (Below w0.heap.size w0 wc))
       case first =>
        have H := HC9.out
        clear HC9
        by_cases c10 : (bt a1 x5_1) = 34
        ·
         rw [if_pos c10] at H
         have c10b0 : ((bt a1 x5_1) == 34) = true := beq_iff_eq.mpr c10
         have c10b1 : ((bt a1 x5_1) != 34) = false := bne_eq_false_iff_eq.mpr c10
         clear c10
         (first | rw [c10b0] | (simp only [i64_w, i32_w]; rw [c10b0]) | skip)
         have H' := Aside0.mk H
         clear H
         go_wp2
         go_meet
         case rel => exact ⟨_, (true), (by first | rfl | (simp; done) | (simp [nil_ne_, nil_eq_]; done) | (simp [*]; done)), H', ⟨by have := HK1.out; first | omega | exact Nat.le_refl _⟩, ⟨by (with_reducible repeat (first | apply Kd.R_alloc | apply Kd.R_drewN | apply Kd.R_drew)); exact HO_0.out⟩, ⟨by repeat (first | (with_reducible first | exact HK.out | apply Kept.alloc | apply Kept.drewN | apply Kept.drew) | exact HK.out)⟩, ⟨by repeat (first | (with_reducible first | exact HB.out | apply below_alloc | apply pw_below_drewN | apply below_drew1) | exact HB.out)⟩⟩
        ·
         rw [if_neg c10] at H
         have c10b0 : ((bt a1 x5_1) == 34) = false := beq_eq_false_iff_ne.mpr c10
         have c10b1 : ((bt a1 x5_1) != 34) = true := bne_iff_ne.mpr c10
         (first | rw [c10b0] | (simp only [i64_w, i32_w]; rw [c10b0]) | skip)
         have H' := Aside0.mk H
         clear H
         go_wp2
         go_meet
         case rel => exact ⟨_, (((bt a1 x5_1) == 92)), (by first | rfl | (simp; done) | (simp [nil_ne_, nil_eq_]; done) | (simp [*]; done)), H', ⟨by have := HK1.out; first | omega | exact Nat.le_refl _⟩, ⟨by (with_reducible repeat (first | apply Kd.R_alloc | apply Kd.R_drewN | apply Kd.R_drew)); exact HO_0.out⟩, ⟨by repeat (first | (with_reducible first | exact HK.out | apply Kept.alloc | apply Kept.drewN | apply Kept.drew) | exact HK.out)⟩, ⟨by repeat (first | (with_reducible first | exact HB.out | apply below_alloc | apply pw_below_drewN | apply below_drew1) | exact HB.out)⟩⟩
       case rest =>
        clear HC9
        try clear c1
        try clear p2
        try clear c3
        try clear c4
        try clear c5
        try clear c5b0
        try clear c6
        try clear c6b0
        try clear p6
        try clear p7
        try clear q7
        try clear hx7
        try clear c8
        try clear c8b0
        try clear c10
        try clear c10b0
        try clear c10b1
        try clear p2
        try clear p7
        try clear q7
        obtain ⟨kq, x27_8, rfl, HA, HJ8, HO_0, HK, HB⟩ := hcut
        cases kq with
        | zero => exact absurd HA.out (by simp [sjson_zzMarshal.j1])
        | succ kj8 =>
         have H := HA.out
         clear HA
         simp only [sjson_zzMarshal.j1] at H
         by_cases c11 : x27_8 = true
         ·
          subst c11
          have H1 : ((some (([92, (bt a1 x5_1)] : List Int) : List Int)).bind fun y112 => (if x0_1.length + y112.length < 140737488355328 then (sjson_zzMarshal.l0 kj8 (x0_1 ++ y112) a1 (wrap64 (x5_1 + 1))) else (none))) = some r := by rw [if_pos rfl] at H; exact H
          clear H
          have H := H1
          clear H1
          obtain ⟨y112, hy112⟩ : ∃ y_ : List Int, y_ = (([92, (bt a1 x5_1)] : List Int)) := ⟨_, rfl⟩
          replace H : (if x0_1.length + y112.length < 140737488355328 then (sjson_zzMarshal.l0 kj8 (x0_1 ++ y112) a1 (wrap64 (x5_1 + 1))) else (none)) = some r := by first | (rw [hy112]; with_reducible exact H) | (have H2_ := (Option.bind_some _ _).symm.trans H; rw [hy112]; with_reducible exact H2_) | (have H2_ := (Option.bind_some _ _).symm.trans H; with_reducible exact H2_) | with_reducible exact H | (rw [hy112]; exact H) | exact H
          have Ny112 := Aside0.mk hy112
          clear hy112
          by_cases c12 : x0_1.length + y112.length < 140737488355328
          ·
           rw [if_pos c12] at H
           have LMc12 := Aside0.mk c12
           clear c12
           obtain ⟨y115, hy115⟩ : ∃ y_ : List Int, y_ = (x0_1 ++ y112) := ⟨_, rfl⟩
           replace H : (sjson_zzMarshal.l0 kj8 y115 a1 (wrap64 (x5_1 + 1))) = some r := by first | (rw [hy115]; with_reducible exact H) | (have H2_ := (Option.bind_some _ _).symm.trans H; rw [hy115]; with_reducible exact H2_) | (have H2_ := (Option.bind_some _ _).symm.trans H; with_reducible exact H2_) | with_reducible exact H | (rw [hy115]; exact H) | exact H
           have Ny115 := Aside0.mk hy115
           clear hy115
           have H' := Aside0.mk H
           clear H
           go_wp2_with (first | ((with_reducible refine gate_dst (N := 36) rfl ?_); refine Kd.R_lit (Kd.int .u8) _ 5 ?hg (N := 36) ?hd (xs := ([92, (bt a1 x5_1)] : List Int)) (inner := [.int .u8 92, .int .u8 (bt a1 x5_1)]) (ok := fun _ => True) (okp := fun _ => True) ?hr ?hp (fun _ hk => hk) trivial (Below.refl _ _) (Nat.le_refl _) (by simp) ?_; (case hd => rfl); (case hg => rfl); (case hr => first | (go_simp; done) | (go_simp; rfl)); (case hp => exact (Reps.one (show Kd.M (Kd.int .u8) _ _ _ 92 [.int .u8 92] from rfl) (Reps.one (show Kd.M (Kd.int .u8) _ _ _ (bt a1 x5_1) [.int .u8 (bt a1 x5_1)] from rfl) (Reps.none _ _)))); intro v113 w13 ho14 hb hg_ hnew_; clear hg_ hnew_; (first | rw [← Ny112.out] at ho14 | (simp only [Int.reduceToNat] at ho14; rw [← Ny112.out] at ho14)); have n0_ := Aside0.mk (Kd.R_elder' (by (with_reducible repeat (first | apply Kd.R_alloc | apply Kd.R_drewN | apply Kd.R_drew)); exact HO_0.out) (Kd.R_base ho14) hb); have n1_ := Aside0.mk (Kd.R_lower (Kd.R_new' (Kd.R_newM (M := fun k_ => (P0_ k_ ∨ w.heap.size ≤ k_)) ho14 (by first | exact HK.out.1 | exact (show Kept w _ (fun k_ => P0_ k_) from by repeat (first | (with_reducible first | exact HK.out | apply Kept.alloc | apply Kept.drewN | apply Kept.drew) | exact HK.out)).1) (fun k_ h_ => .inr h_)) (Kd.R_lt (by (with_reducible repeat (first | apply Kd.R_alloc | apply Kd.R_drewN | apply Kd.R_drew)); exact HO_0.out))) (below_size (by repeat (first | (with_reducible first | exact HB.out | apply below_alloc | apply pw_below_drewN | apply below_drew1) | exact HB.out)))); have n2_ := Aside0.mk (Kept.below (S := (fun k_ => P0_ k_)) (by repeat (first | (with_reducible first | exact HK.out | apply Kept.alloc | apply Kept.drewN | apply Kept.drew) | exact HK.out)) hb); have n3_ := Aside0.mk (below_step (by repeat (first | (with_reducible first | exact HB.out | apply below_alloc | apply pw_below_drewN | apply below_drew1) | exact HB.out)) hb); clear HO_0; clear HK; clear HB; have HO_0 := n0_; have HO114 := n1_; have HK := n2_; have HB := n3_; clear n0_ n1_ n2_ n3_; clear hb ho14; obtain ⟨Ao16, co16, eo16⟩ := Kd.R_slice HO114.out; subst eo16) | ((with_reducible refine gate_builtin (b := .append) (xs := #[.tmp 34, .tmp 36]) rfl ?_); at_builtin; refine Kd.R_append_rows (Kd.int .u8) (w0 := w0) w0.heap.size rfl (.tmp 34) (.tmp 36) 39 5 (.int .u8 0) 1 rfl Tryd.underlying39 info5 rfl (by decide) (by omega) u0 x0_1 y112 _ _ _ (fun k_ => (P0_ k_ ∨ w.heap.size ≤ k_) ∧ some k_ ≠ (.slice Ao16 y112.length co16 : Value).ownBlock) (fun _ => False) rfl rfl ?aO ?aR (fun _ _ h => h) (fun _ h => h.elim) ?aF ?aB ?aS ?aL ?_; (case aR => repeat (first | exact (Kd.R_reads' HO114.out).2.2 | (with_reducible refine Kd.C_alloc ?_ _) | (with_reducible refine Kd.C_drewN ?_ _) | (with_reducible refine Kd.C_drew ?_))); (case aB => exact (by repeat (first | (with_reducible first | exact HB.out | apply below_alloc | apply pw_below_drewN | apply below_drew1) | exact HB.out))); (case aF => exact (fun k_ hk => ⟨(.inr (Nat.le_trans (by first | exact HK.out.1 | exact (show Kept w _ (fun k_ => P0_ k_) from by repeat (first | (with_reducible first | exact HK.out | apply Kept.alloc | apply Kept.drewN | apply Kept.drew) | exact HK.out)).1) hk)), Kd.fresh' (Kd.R_lt (by (with_reducible repeat (first | apply Kd.R_alloc | apply Kd.R_drewN | apply Kd.R_drew)); exact HO114.out)) k_ hk⟩)); (case aO => exact (by (with_reducible repeat (first | apply Kd.R_alloc | apply Kd.R_drewN | apply Kd.R_drew)); exact HO_0.out)); (case aS => exact (below_size (by repeat (first | (with_reducible first | exact HB.out | apply below_alloc | apply pw_below_drewN | apply below_drew1) | exact HB.out)))); (case aL => have := LMc12.out; omega); intro v116 w15 ho hb hg hat; rw [← Ny115.out] at ho; have n0_ := Aside0.mk (Kd.R_after (ok := (fun k_ => (P0_ k_ ∨ w.heap.size ≤ k_))) (by (with_reducible repeat (first | apply Kd.R_alloc | apply Kd.R_drewN | apply Kd.R_drew)); exact Kd.R_mono HO114.out (fun _ hk => ⟨hk.1.1, hk.2⟩)) hg hat); have n1_ := Aside0.mk (hb); have n2_ := Aside0.mk (Kept.of_grown (S := (fun k_ => P0_ k_)) hg (by repeat (first | (with_reducible first | exact HK.out | apply Kept.alloc | apply Kept.drewN | apply Kept.drew) | exact HK.out)) (fun k_ e_ => (HO_0.out.1 k_ e_).1)); have n3_ := Aside0.mk (ho); clear HO114; clear HB; clear HK; clear HO_0; have HO114 := n0_; have HB := n1_; have HK := n2_; have HO117 := n3_; clear n0_ n1_ n2_ n3_; clear ho hb hg hat))
           go_roundg kj8
           case measure => have := HK1.out; have := HJ8.out; omega
           case rel => exact ⟨(y115), ((wrap64 (x5_1 + 1))), (by first | rfl | (simp; done) | (simp [nil_ne_, nil_eq_]; done) | (simp [*]; done)), H', ⟨by have := HK1.out; have := HJ8.out; omega⟩, ⟨by (with_reducible repeat (first | apply Kd.R_alloc | apply Kd.R_drewN | apply Kd.R_drew)); exact Kd.R_mono HO117.out (fun _ hk => hk.1)⟩, ⟨by repeat (first | (with_reducible first | exact HK.out | apply Kept.alloc | apply Kept.drewN | apply Kept.drew) | exact HK.out)⟩, ⟨by repeat (first | (with_reducible first | exact HB.out | apply below_alloc | apply pw_below_drewN | apply below_drew1) | exact HB.out)⟩⟩
          ·
           rw [if_neg c12] at H
           exact absurd H (by simp)
         ·
          replace c11 := Bool.eq_false_iff.mpr c11
          subst c11
          have H1 : (if (bt a1 x5_1) = 8 then ((some (([92, 98] : List Int) : List Int)).bind fun y118 => (if x0_1.length + y118.length < 140737488355328 then (sjson_zzMarshal.l0 kj8 (x0_1 ++ y118) a1 (wrap64 (x5_1 + 1))) else (none))) else (if (bt a1 x5_1) = 12 then ((some (([92, 102] : List Int) : List Int)).bind fun y124 => (if x0_1.length + y124.length < 140737488355328 then (sjson_zzMarshal.l0 kj8 (x0_1 ++ y124) a1 (wrap64 (x5_1 + 1))) else (none))) else (if (bt a1 x5_1) = 10 then ((some (([92, 110] : List Int) : List Int)).bind fun y130 => (if x0_1.length + y130.length < 140737488355328 then (sjson_zzMarshal.l0 kj8 (x0_1 ++ y130) a1 (wrap64 (x5_1 + 1))) else (none))) else (if (bt a1 x5_1) = 13 then ((some (([92, 114] : List Int) : List Int)).bind fun y136 => (if x0_1.length + y136.length < 140737488355328 then (sjson_zzMarshal.l0 kj8 (x0_1 ++ y136) a1 (wrap64 (x5_1 + 1))) else (none))) else (if (bt a1 x5_1) = 9 then ((some (([92, 116] : List Int) : List Int)).bind fun y142 => (if x0_1.length + y142.length < 140737488355328 then (sjson_zzMarshal.l0 kj8 (x0_1 ++ y142) a1 (wrap64 (x5_1 + 1))) else (none))) else (if (bt a1 x5_1) < 32 then (if 0 ≤ ((bt a1 x5_1) / 16) then (if ((bt a1 x5_1) / 16) < 16 then (if 0 ≤ (Go.bits .and .u8 (bt a1 x5_1) 15) then (if (Go.bits .and .u8 (bt a1 x5_1) 15) < 16 then ((some (([92, 117, 48, 48, bt (⟨#[48, 49, 50, 51, 52, 53, 54, 55, 56, 57, 97, 98, 99, 100, 101, 102]⟩ : ByteArray) ((bt a1 x5_1) / 16), bt (⟨#[48, 49, 50, 51, 52, 53, 54, 55, 56, 57, 97, 98, 99, 100, 101, 102]⟩ : ByteArray) (Go.bits .and .u8 (bt a1 x5_1) 15)] : List Int) : List Int)).bind fun y148 => (if x0_1.length + y148.length < 140737488355328 then (sjson_zzMarshal.l0 kj8 (x0_1 ++ y148) a1 (wrap64 (x5_1 + 1))) else (none))) else (none)) else (none)) else (none)) else (none)) else (if (bt a1 x5_1) = 60 then (if 0 ≤ ((bt a1 x5_1) / 16) then (if ((bt a1 x5_1) / 16) < 16 then (if 0 ≤ (Go.bits .and .u8 (bt a1 x5_1) 15) then (if (Go.bits .and .u8 (bt a1 x5_1) 15) < 16 then ((some (([92, 117, 48, 48, bt (⟨#[48, 49, 50, 51, 52, 53, 54, 55, 56, 57, 97, 98, 99, 100, 101, 102]⟩ : ByteArray) ((bt a1 x5_1) / 16), bt (⟨#[48, 49, 50, 51, 52, 53, 54, 55, 56, 57, 97, 98, 99, 100, 101, 102]⟩ : ByteArray) (Go.bits .and .u8 (bt a1 x5_1) 15)] : List Int) : List Int)).bind fun y154 => (if x0_1.length + y154.length < 140737488355328 then (sjson_zzMarshal.l0 kj8 (x0_1 ++ y154) a1 (wrap64 (x5_1 + 1))) else (none))) else (none)) else (none)) else (none)) else (none)) else (if (bt a1 x5_1) = 62 then (if 0 ≤ ((bt a1 x5_1) / 16) then (if ((bt a1 x5_1) / 16) < 16 then (if 0 ≤ (Go.bits .and .u8 (bt a1 x5_1) 15) then (if (Go.bits .and .u8 (bt a1 x5_1) 15) < 16 then ((some (([92, 117, 48, 48, bt (⟨#[48, 49, 50, 51, 52, 53, 54, 55, 56, 57, 97, 98, 99, 100, 101, 102]⟩ : ByteArray) ((bt a1 x5_1) / 16), bt (⟨#[48, 49, 50, 51, 52, 53, 54, 55, 56, 57, 97, 98, 99, 100, 101, 102]⟩ : ByteArray) (Go.bits .and .u8 (bt a1 x5_1) 15)] : List Int) : List Int)).bind fun y160 => (if x0_1.length + y160.length < 140737488355328 then (sjson_zzMarshal.l0 kj8 (x0_1 ++ y160) a1 (wrap64 (x5_1 + 1))) else (none))) else (none)) else (none)) else (none)) else (none)) else (if (bt a1 x5_1) = 38 then (if 0 ≤ ((bt a1 x5_1) / 16) then (if ((bt a1 x5_1) / 16) < 16 then (if 0 ≤ (Go.bits .and .u8 (bt a1 x5_1) 15) then (if (Go.bits .and .u8 (bt a1 x5_1) 15) < 16 then ((some (([92, 117, 48, 48, bt (⟨#[48, 49, 50, 51, 52, 53, 54, 55, 56, 57, 97, 98, 99, 100, 101, 102]⟩ : ByteArray) ((bt a1 x5_1) / 16), bt (⟨#[48, 49, 50, 51, 52, 53, 54, 55, 56, 57, 97, 98, 99, 100, 101, 102]⟩ : ByteArray) (Go.bits .and .u8 (bt a1 x5_1) 15)] : List Int) : List Int)).bind fun y166 => (if x0_1.length + y166.length < 140737488355328 then (sjson_zzMarshal.l0 kj8 (x0_1 ++ y166) a1 (wrap64 (x5_1 + 1))) else (none))) else (none)) else (none)) else (none)) else (none)) else (if x0_1.length < 140737488355328 then (sjson_zzMarshal.l0 kj8 (x0_1 ++ [(bt a1 x5_1)]) a1 (wrap64 (x5_1 + 1))) else (none))))))))))) = some r := by rw [if_neg (show ¬ (false = true) by decide)] at H; exact H
          clear H
          have H := H1
          clear H1
          by_cases c17 : (bt a1 x5_1) = 8
          ·
           rw [if_pos c17] at H
           have c17b0 : ((bt a1 x5_1) == 8) = true := beq_iff_eq.mpr c17
           have c17b1 : ((bt a1 x5_1) != 8) = false := bne_eq_false_iff_eq.mpr c17
           clear c17
           obtain ⟨y118, hy118⟩ : ∃ y_ : List Int, y_ = (([92, 98] : List Int)) := ⟨_, rfl⟩
           replace H : (if x0_1.length + y118.length < 140737488355328 then (sjson_zzMarshal.l0 kj8 (x0_1 ++ y118) a1 (wrap64 (x5_1 + 1))) else (none)) = some r := by first | (rw [hy118]; with_reducible exact H) | (have H2_ := (Option.bind_some _ _).symm.trans H; rw [hy118]; with_reducible exact H2_) | (have H2_ := (Option.bind_some _ _).symm.trans H; with_reducible exact H2_) | with_reducible exact H | (rw [hy118]; exact H) | exact H
           have Ny118 := Aside0.mk hy118
           clear hy118
           by_cases c18 : x0_1.length + y118.length < 140737488355328
           ·
            rw [if_pos c18] at H
            have LMc18 := Aside0.mk c18
            clear c18
            obtain ⟨y121, hy121⟩ : ∃ y_ : List Int, y_ = (x0_1 ++ y118) := ⟨_, rfl⟩
            replace H : (sjson_zzMarshal.l0 kj8 y121 a1 (wrap64 (x5_1 + 1))) = some r := by first | (rw [hy121]; with_reducible exact H) | (have H2_ := (Option.bind_some _ _).symm.trans H; rw [hy121]; with_reducible exact H2_) | (have H2_ := (Option.bind_some _ _).symm.trans H; with_reducible exact H2_) | with_reducible exact H | (rw [hy121]; exact H) | exact H
            have Ny121 := Aside0.mk hy121
            clear hy121
            have H' := Aside0.mk H
            clear H
            go_wp2_with (first | ((with_reducible refine gate_dst (N := 42) rfl ?_); refine Kd.R_lit (Kd.int .u8) _ 5 ?hg (N := 42) ?hd (xs := ([92, 98] : List Int)) (inner := [.int .u8 92, .int .u8 98]) (ok := fun _ => True) (okp := fun _ => True) ?hr ?hp (fun _ hk => hk) trivial (Below.refl _ _) (Nat.le_refl _) (by simp) ?_; (case hd => rfl); (case hg => rfl); (case hr => first | (go_simp; done) | (go_simp; rfl)); (case hp => exact (Reps.one (show Kd.M (Kd.int .u8) _ _ _ 92 [.int .u8 92] from rfl) (Reps.one (show Kd.M (Kd.int .u8) _ _ _ 98 [.int .u8 98] from rfl) (Reps.none _ _)))); intro v119 w19 ho20 hb hg_ hnew_; clear hg_ hnew_; (first | rw [← Ny118.out] at ho20 | (simp only [Int.reduceToNat] at ho20; rw [← Ny118.out] at ho20)); have n0_ := Aside0.mk (Kd.R_elder' (by (with_reducible repeat (first | apply Kd.R_alloc | apply Kd.R_drewN | apply Kd.R_drew)); exact HO_0.out) (Kd.R_base ho20) hb); have n1_ := Aside0.mk (Kd.R_lower (Kd.R_new' (Kd.R_newM (M := fun k_ => (P0_ k_ ∨ w.heap.size ≤ k_)) ho20 (by first | exact HK.out.1 | exact (show Kept w _ (fun k_ => P0_ k_) from by repeat (first | (with_reducible first | exact HK.out | apply Kept.alloc | apply Kept.drewN | apply Kept.drew) | exact HK.out)).1) (fun k_ h_ => .inr h_)) (Kd.R_lt (by (with_reducible repeat (first | apply Kd.R_alloc | apply Kd.R_drewN | apply Kd.R_drew)); exact HO_0.out))) (below_size (by repeat (first | (with_reducible first | exact HB.out | apply below_alloc | apply pw_below_drewN | apply below_drew1) | exact HB.out)))); have n2_ := Aside0.mk (Kept.below (S := (fun k_ => P0_ k_)) (by repeat (first | (with_reducible first | exact HK.out | apply Kept.alloc | apply Kept.drewN | apply Kept.drew) | exact HK.out)) hb); have n3_ := Aside0.mk (below_step (by repeat (first | (with_reducible first | exact HB.out | apply below_alloc | apply pw_below_drewN | apply below_drew1) | exact HB.out)) hb); clear HO_0; clear HK; clear HB; have HO_0 := n0_; have HO120 := n1_; have HK := n2_; have HB := n3_; clear n0_ n1_ n2_ n3_; clear hb ho20; obtain ⟨Ao22, co22, eo22⟩ := Kd.R_slice HO120.out; subst eo22) | ((with_reducible refine gate_builtin (b := .append) (xs := #[.tmp 41, .tmp 42]) rfl ?_); at_builtin; refine Kd.R_append_rows (Kd.int .u8) (w0 := w0) w0.heap.size rfl (.tmp 41) (.tmp 42) 39 5 (.int .u8 0) 1 rfl Tryd.underlying39 info5 rfl (by decide) (by omega) u0 x0_1 y118 _ _ _ (fun k_ => (P0_ k_ ∨ w.heap.size ≤ k_) ∧ some k_ ≠ (.slice Ao22 y118.length co22 : Value).ownBlock) (fun _ => False) rfl rfl ?aO ?aR (fun _ _ h => h) (fun _ h => h.elim) ?aF ?aB ?aS ?aL ?_; (case aR => repeat (first | exact (Kd.R_reads' HO120.out).2.2 | (with_reducible refine Kd.C_alloc ?_ _) | (with_reducible refine Kd.C_drewN ?_ _) | (with_reducible refine Kd.C_drew ?_))); (case aB => exact (by repeat (first | (with_reducible first | exact HB.out | apply below_alloc | apply pw_below_drewN | apply below_drew1) | exact HB.out))); (case aF => exact (fun k_ hk => ⟨(.inr (Nat.le_trans (by first | exact HK.out.1 | exact (show Kept w _ (fun k_ => P0_ k_) from by repeat (first | (with_reducible first | exact HK.out | apply Kept.alloc | apply Kept.drewN | apply Kept.drew) | exact HK.out)).1) hk)), Kd.fresh' (Kd.R_lt (by (with_reducible repeat (first | apply Kd.R_alloc | apply Kd.R_drewN | apply Kd.R_drew)); exact HO120.out)) k_ hk⟩)); (case aO => exact (by (with_reducible repeat (first | apply Kd.R_alloc | apply Kd.R_drewN | apply Kd.R_drew)); exact HO_0.out)); (case aS => exact (below_size (by repeat (first | (with_reducible first | exact HB.out | apply below_alloc | apply pw_below_drewN | apply below_drew1) | exact HB.out)))); (case aL => have := LMc18.out; omega); intro v122 w21 ho hb hg hat; rw [← Ny121.out] at ho; have n0_ := Aside0.mk (Kd.R_after (ok := (fun k_ => (P0_ k_ ∨ w.heap.size ≤ k_))) (by (with_reducible repeat (first | apply Kd.R_alloc | apply Kd.R_drewN | apply Kd.R_drew)); exact Kd.R_mono HO120.out (fun _ hk => ⟨hk.1.1, hk.2⟩)) hg hat); have n1_ := Aside0.mk (hb); have n2_ := Aside0.mk (Kept.of_grown (S := (fun k_ => P0_ k_)) hg (by repeat (first | (with_reducible first | exact HK.out | apply Kept.alloc | apply Kept.drewN | apply Kept.drew) | exact HK.out)) (fun k_ e_ => (HO_0.out.1 k_ e_).1)); have n3_ := Aside0.mk (ho); clear HO120; clear HB; clear HK; clear HO_0; have HO120 := n0_; have HB := n1_; have HK := n2_; have HO123 := n3_; clear n0_ n1_ n2_ n3_; clear ho hb hg hat))
            go_roundg kj8
            case measure => have := HK1.out; have := HJ8.out; omega
            case rel => exact ⟨(y121), ((wrap64 (x5_1 + 1))), (by first | rfl | (simp; done) | (simp [nil_ne_, nil_eq_]; done) | (simp [*]; done)), H', ⟨by have := HK1.out; have := HJ8.out; omega⟩, ⟨by (with_reducible repeat (first | apply Kd.R_alloc | apply Kd.R_drewN | apply Kd.R_drew)); exact Kd.R_mono HO123.out (fun _ hk => hk.1)⟩, ⟨by repeat (first | (with_reducible first | exact HK.out | apply Kept.alloc | apply Kept.drewN | apply Kept.drew) | exact HK.out)⟩, ⟨by repeat (first | (with_reducible first | exact HB.out | apply below_alloc | apply pw_below_drewN | apply below_drew1) | exact HB.out)⟩⟩
           ·
            rw [if_neg c18] at H
            exact absurd H (by simp)
          ·
           rw [if_neg c17] at H
           have c17b0 : ((bt a1 x5_1) == 8) = false := beq_eq_false_iff_ne.mpr c17
           have c17b1 : ((bt a1 x5_1) != 8) = true := bne_iff_ne.mpr c17
           by_cases c23 : (bt a1 x5_1) = 12
           ·
            rw [if_pos c23] at H
            have c23b0 : ((bt a1 x5_1) == 12) = true := beq_iff_eq.mpr c23
            have c23b1 : ((bt a1 x5_1) != 12) = false := bne_eq_false_iff_eq.mpr c23
            clear c23
            obtain ⟨y124, hy124⟩ : ∃ y_ : List Int, y_ = (([92, 102] : List Int)) := ⟨_, rfl⟩
            replace H : (if x0_1.length + y124.length < 140737488355328 then (sjson_zzMarshal.l0 kj8 (x0_1 ++ y124) a1 (wrap64 (x5_1 + 1))) else (none)) = some r := by first | (rw [hy124]; with_reducible exact H) | (have H2_ := (Option.bind_some _ _).symm.trans H; rw [hy124]; with_reducible exact H2_) | (have H2_ := (Option.bind_some _ _).symm.trans H; with_reducible exact H2_) | with_reducible exact H | (rw [hy124]; exact H) | exact H
            have Ny124 := Aside0.mk hy124
            clear hy124
            by_cases c24 : x0_1.length + y124.length < 140737488355328
            ·
             rw [if_pos c24] at H
             have LMc24 := Aside0.mk c24
             clear c24
             obtain ⟨y127, hy127⟩ : ∃ y_ : List Int, y_ = (x0_1 ++ y124) := ⟨_, rfl⟩
             replace H : (sjson_zzMarshal.l0 kj8 y127 a1 (wrap64 (x5_1 + 1))) = some r := by first | (rw [hy127]; with_reducible exact H) | (have H2_ := (Option.bind_some _ _).symm.trans H; rw [hy127]; with_reducible exact H2_) | (have H2_ := (Option.bind_some _ _).symm.trans H; with_reducible exact H2_) | with_reducible exact H | (rw [hy127]; exact H) | exact H
             have Ny127 := Aside0.mk hy127
             clear hy127
             have H' := Aside0.mk H
             clear H
             go_wp2_with (first | ((with_reducible refine gate_dst (N := 48) rfl ?_); refine Kd.R_lit (Kd.int .u8) _ 5 ?hg (N := 48) ?hd (xs := ([92, 102] : List Int)) (inner := [.int .u8 92, .int .u8 102]) (ok := fun _ => True) (okp := fun _ => True) ?hr ?hp (fun _ hk => hk) trivial (Below.refl _ _) (Nat.le_refl _) (by simp) ?_; (case hd => rfl); (case hg => rfl); (case hr => first | (go_simp; done) | (go_simp; rfl)); (case hp => exact (Reps.one (show Kd.M (Kd.int .u8) _ _ _ 92 [.int .u8 92] from rfl) (Reps.one (show Kd.M (Kd.int .u8) _ _ _ 102 [.int .u8 102] from rfl) (Reps.none _ _)))); intro v125 w25 ho26 hb hg_ hnew_; clear hg_ hnew_; (first | rw [← Ny124.out] at ho26 | (simp only [Int.reduceToNat] at ho26; rw [← Ny124.out] at ho26)); have n0_ := Aside0.mk (Kd.R_elder' (by (with_reducible repeat (first | apply Kd.R_alloc | apply Kd.R_drewN | apply Kd.R_drew)); exact HO_0.out) (Kd.R_base ho26) hb); have n1_ := Aside0.mk (Kd.R_lower (Kd.R_new' (Kd.R_newM (M := fun k_ => (P0_ k_ ∨ w.heap.size ≤ k_)) ho26 (by first | exact HK.out.1 | exact (show Kept w _ (fun k_ => P0_ k_) from by repeat (first | (with_reducible first | exact HK.out | apply Kept.alloc | apply Kept.drewN | apply Kept.drew) | exact HK.out)).1) (fun k_ h_ => .inr h_)) (Kd.R_lt (by (with_reducible repeat (first | apply Kd.R_alloc | apply Kd.R_drewN | apply Kd.R_drew)); exact HO_0.out))) (below_size (by repeat (first | (with_reducible first | exact HB.out | apply below_alloc | apply pw_below_drewN | apply below_drew1) | exact HB.out)))); have n2_ := Aside0.mk (Kept.below (S := (fun k_ => P0_ k_)) (by repeat (first | (with_reducible first | exact HK.out | apply Kept.alloc | apply Kept.drewN | apply Kept.drew) | exact HK.out)) hb); have n3_ := Aside0.mk (below_step (by repeat (first | (with_reducible first | exact HB.out | apply below_alloc | apply pw_below_drewN | apply below_drew1) | exact HB.out)) hb); clear HO_0; clear HK; clear HB; have HO_0 := n0_; have HO126 := n1_; have HK := n2_; have HB := n3_; clear n0_ n1_ n2_ n3_; clear hb ho26; obtain ⟨Ao28, co28, eo28⟩ := Kd.R_slice HO126.out; subst eo28) | ((with_reducible refine gate_builtin (b := .append) (xs := #[.tmp 47, .tmp 48]) rfl ?_); at_builtin; refine Kd.R_append_rows (Kd.int .u8) (w0 := w0) w0.heap.size rfl (.tmp 47) (.tmp 48) 39 5 (.int .u8 0) 1 rfl Tryd.underlying39 info5 rfl (by decide) (by omega) u0 x0_1 y124 _ _ _ (fun k_ => (P0_ k_ ∨ w.heap.size ≤ k_) ∧ some k_ ≠ (.slice Ao28 y124.length co28 : Value).ownBlock) (fun _ => False) rfl rfl ?aO ?aR (fun _ _ h => h) (fun _ h => h.elim) ?aF ?aB ?aS ?aL ?_; (case aR => repeat (first | exact (Kd.R_reads' HO126.out).2.2 | (with_reducible refine Kd.C_alloc ?_ _) | (with_reducible refine Kd.C_drewN ?_ _) | (with_reducible refine Kd.C_drew ?_))); (case aB => exact (by repeat (first | (with_reducible first | exact HB.out | apply below_alloc | apply pw_below_drewN | apply below_drew1) | exact HB.out))); (case aF => exact (fun k_ hk => ⟨(.inr (Nat.le_trans (by first | exact HK.out.1 | exact (show Kept w _ (fun k_ => P0_ k_) from by repeat (first | (with_reducible first | exact HK.out | apply Kept.alloc | apply Kept.drewN | apply Kept.drew) | exact HK.out)).1) hk)), Kd.fresh' (Kd.R_lt (by (with_reducible repeat (first | apply Kd.R_alloc | apply Kd.R_drewN | apply Kd.R_drew)); exact HO126.out)) k_ hk⟩)); (case aO => exact (by (with_reducible repeat (first | apply Kd.R_alloc | apply Kd.R_drewN | apply Kd.R_drew)); exact HO_0.out)); (case aS => exact (below_size (by repeat (first | (with_reducible first | exact HB.out | apply below_alloc | apply pw_below_drewN | apply below_drew1) | exact HB.out)))); (case aL => have := LMc24.out; omega); intro v128 w27 ho hb hg hat; rw [← Ny127.out] at ho; have n0_ := Aside0.mk (Kd.R_after (ok := (fun k_ => (P0_ k_ ∨ w.heap.size ≤ k_))) (by (with_reducible repeat (first | apply Kd.R_alloc | apply Kd.R_drewN | apply Kd.R_drew)); exact Kd.R_mono HO126.out (fun _ hk => ⟨hk.1.1, hk.2⟩)) hg hat); have n1_ := Aside0.mk (hb); have n2_ := Aside0.mk (Kept.of_grown (S := (fun k_ => P0_ k_)) hg (by repeat (first | (with_reducible first | exact HK.out | apply Kept.alloc | apply Kept.drewN | apply Kept.drew) | exact HK.out)) (fun k_ e_ => (HO_0.out.1 k_ e_).1)); have n3_ := Aside0.mk (ho); clear HO126; clear HB; clear HK; clear HO_0; have HO126 := n0_; have HB := n1_; have HK := n2_; have HO129 := n3_; clear n0_ n1_ n2_ n3_; clear ho hb hg hat))
             go_roundg kj8
             case measure => have := HK1.out; have := HJ8.out; omega
             case rel => exact ⟨(y127), ((wrap64 (x5_1 + 1))), (by first | rfl | (simp; done) | (simp [nil_ne_, nil_eq_]; done) | (simp [*]; done)), H', ⟨by have := HK1.out; have := HJ8.out; omega⟩, ⟨by (with_reducible repeat (first | apply Kd.R_alloc | apply Kd.R_drewN | apply Kd.R_drew)); exact Kd.R_mono HO129.out (fun _ hk => hk.1)⟩, ⟨by repeat (first | (with_reducible first | exact HK.out | apply Kept.alloc | apply Kept.drewN | apply Kept.drew) | exact HK.out)⟩, ⟨by repeat (first | (with_reducible first | exact HB.out | apply below_alloc | apply pw_below_drewN | apply below_drew1) | exact HB.out)⟩⟩
            ·
             rw [if_neg c24] at H
             exact absurd H (by simp)
           ·
            rw [if_neg c23] at H
            have c23b0 : ((bt a1 x5_1) == 12) = false := beq_eq_false_iff_ne.mpr c23
            have c23b1 : ((bt a1 x5_1) != 12) = true := bne_iff_ne.mpr c23
            by_cases c29 : (bt a1 x5_1) = 10
            ·
             rw [if_pos c29] at H
             have c29b0 : ((bt a1 x5_1) == 10) = true := beq_iff_eq.mpr c29
             have c29b1 : ((bt a1 x5_1) != 10) = false := bne_eq_false_iff_eq.mpr c29
             clear c29
             obtain ⟨y130, hy130⟩ : ∃ y_ : List Int, y_ = (([92, 110] : List Int)) := ⟨_, rfl⟩
             replace H : (if x0_1.length + y130.length < 140737488355328 then (sjson_zzMarshal.l0 kj8 (x0_1 ++ y130) a1 (wrap64 (x5_1 + 1))) else (none)) = some r := by first | (rw [hy130]; with_reducible exact H) | (have H2_ := (Option.bind_some _ _).symm.trans H; rw [hy130]; with_reducible exact H2_) | (have H2_ := (Option.bind_some _ _).symm.trans H; with_reducible exact H2_) | with_reducible exact H | (rw [hy130]; exact H) | exact H
             have Ny130 := Aside0.mk hy130
             clear hy130
             by_cases c30 : x0_1.length + y130.length < 140737488355328
             ·
              rw [if_pos c30] at H
              have LMc30 := Aside0.mk c30
              clear c30
              obtain ⟨y133, hy133⟩ : ∃ y_ : List Int, y_ = (x0_1 ++ y130) := ⟨_, rfl⟩
              replace H : (sjson_zzMarshal.l0 kj8 y133 a1 (wrap64 (x5_1 + 1))) = some r := by first | (rw [hy133]; with_reducible exact H) | (have H2_ := (Option.bind_some _ _).symm.trans H; rw [hy133]; with_reducible exact H2_) | (have H2_ := (Option.bind_some _ _).symm.trans H; with_reducible exact H2_) | with_reducible exact H | (rw [hy133]; exact H) | exact H
              have Ny133 := Aside0.mk hy133
              clear hy133
              have H' := Aside0.mk H
              clear H
              go_wp2_with (first | ((with_reducible refine gate_dst (N := 54) rfl ?_); refine Kd.R_lit (Kd.int .u8) _ 5 ?hg (N := 54) ?hd (xs := ([92, 110] : List Int)) (inner := [.int .u8 92, .int .u8 110]) (ok := fun _ => True) (okp := fun _ => True) ?hr ?hp (fun _ hk => hk) trivial (Below.refl _ _) (Nat.le_refl _) (by simp) ?_; (case hd => rfl); (case hg => rfl); (case hr => first | (go_simp; done) | (go_simp; rfl)); (case hp => exact (Reps.one (show Kd.M (Kd.int .u8) _ _ _ 92 [.int .u8 92] from rfl) (Reps.one (show Kd.M (Kd.int .u8) _ _ _ 110 [.int .u8 110] from rfl) (Reps.none _ _)))); intro v131 w31 ho32 hb hg_ hnew_; clear hg_ hnew_; (first | rw [← Ny130.out] at ho32 | (simp only [Int.reduceToNat] at ho32; rw [← Ny130.out] at ho32)); have n0_ := Aside0.mk (Kd.R_elder' (by (with_reducible repeat (first | apply Kd.R_alloc | apply Kd.R_drewN | apply Kd.R_drew)); exact HO_0.out) (Kd.R_base ho32) hb); have n1_ := Aside0.mk (Kd.R_lower (Kd.R_new' (Kd.R_newM (M := fun k_ => (P0_ k_ ∨ w.heap.size ≤ k_)) ho32 (by first | exact HK.out.1 | exact (show Kept w _ (fun k_ => P0_ k_) from by repeat (first | (with_reducible first | exact HK.out | apply Kept.alloc | apply Kept.drewN | apply Kept.drew) | exact HK.out)).1) (fun k_ h_ => .inr h_)) (Kd.R_lt (by (with_reducible repeat (first | apply Kd.R_alloc | apply Kd.R_drewN | apply Kd.R_drew)); exact HO_0.out))) (below_size (by repeat (first | (with_reducible first | exact HB.out | apply below_alloc | apply pw_below_drewN | apply below_drew1) | exact HB.out)))); have n2_ := Aside0.mk (Kept.below (S := (fun k_ => P0_ k_)) (by repeat (first | (with_reducible first | exact HK.out | apply Kept.alloc | apply Kept.drewN | apply Kept.drew) | exact HK.out)) hb); have n3_ := Aside0.mk (below_step (by repeat (first | (with_reducible first | exact HB.out | apply below_alloc | apply pw_below_drewN | apply below_drew1) | exact HB.out)) hb); clear HO_0; clear HK; clear HB; have HO_0 := n0_; have HO132 := n1_; have HK := n2_; have HB := n3_; clear n0_ n1_ n2_ n3_; clear hb ho32; obtain ⟨Ao34, co34, eo34⟩ := Kd.R_slice HO132.out; subst eo34) | ((with_reducible refine gate_builtin (b := .append) (xs := #[.tmp 53, .tmp 54]) rfl ?_); at_builtin; refine Kd.R_append_rows (Kd.int .u8) (w0 := w0) w0.heap.size rfl (.tmp 53) (.tmp 54) 39 5 (.int .u8 0) 1 rfl Tryd.underlying39 info5 rfl (by decide) (by omega) u0 x0_1 y130 _ _ _ (fun k_ => (P0_ k_ ∨ w.heap.size ≤ k_) ∧ some k_ ≠ (.slice Ao34 y130.length co34 : Value).ownBlock) (fun _ => False) rfl rfl ?aO ?aR (fun _ _ h => h) (fun _ h => h.elim) ?aF ?aB ?aS ?aL ?_; (case aR => repeat (first | exact (Kd.R_reads' HO132.out).2.2 | (with_reducible refine Kd.C_alloc ?_ _) | (with_reducible refine Kd.C_drewN ?_ _) | (with_reducible refine Kd.C_drew ?_))); (case aB => exact (by repeat (first | (with_reducible first | exact HB.out | apply below_alloc | apply pw_below_drewN | apply below_drew1) | exact HB.out))); (case aF => exact (fun k_ hk => ⟨(.inr (Nat.le_trans (by first | exact HK.out.1 | exact (show Kept w _ (fun k_ => P0_ k_) from by repeat (first | (with_reducible first | exact HK.out | apply Kept.alloc | apply Kept.drewN | apply Kept.drew) | exact HK.out)).1) hk)), Kd.fresh' (Kd.R_lt (by (with_reducible repeat (first | apply Kd.R_alloc | apply Kd.R_drewN | apply Kd.R_drew)); exact HO132.out)) k_ hk⟩)); (case aO => exact (by (with_reducible repeat (first | apply Kd.R_alloc | apply Kd.R_drewN | apply Kd.R_drew)); exact HO_0.out)); (case aS => exact (below_size (by repeat (first | (with_reducible first | exact HB.out | apply below_alloc | apply pw_below_drewN | apply below_drew1) | exact HB.out)))); (case aL => have := LMc30.out; omega); intro v134 w33 ho hb hg hat; rw [← Ny133.out] at ho; have n0_ := Aside0.mk (Kd.R_after (ok := (fun k_ => (P0_ k_ ∨ w.heap.size ≤ k_))) (by (with_reducible repeat (first | apply Kd.R_alloc | apply Kd.R_drewN | apply Kd.R_drew)); exact Kd.R_mono HO132.out (fun _ hk => ⟨hk.1.1, hk.2⟩)) hg hat); have n1_ := Aside0.mk (hb); have n2_ := Aside0.mk (Kept.of_grown (S := (fun k_ => P0_ k_)) hg (by repeat (first | (with_reducible first | exact HK.out | apply Kept.alloc | apply Kept.drewN | apply Kept.drew) | exact HK.out)) (fun k_ e_ => (HO_0.out.1 k_ e_).1)); have n3_ := Aside0.mk (ho); clear HO132; clear HB; clear HK; clear HO_0; have HO132 := n0_; have HB := n1_; have HK := n2_; have HO135 := n3_; clear n0_ n1_ n2_ n3_; clear ho hb hg hat))
              go_roundg kj8
              case measure => have := HK1.out; have := HJ8.out; omega
              case rel => exact ⟨(y133), ((wrap64 (x5_1 + 1))), (by first | rfl | (simp; done) | (simp [nil_ne_, nil_eq_]; done) | (simp [*]; done)), H', ⟨by have := HK1.out; have := HJ8.out; omega⟩, ⟨by (with_reducible repeat (first | apply Kd.R_alloc | apply Kd.R_drewN | apply Kd.R_drew)); exact Kd.R_mono HO135.out (fun _ hk => hk.1)⟩, ⟨by repeat (first | (with_reducible first | exact HK.out | apply Kept.alloc | apply Kept.drewN | apply Kept.drew) | exact HK.out)⟩, ⟨by repeat (first | (with_reducible first | exact HB.out | apply below_alloc | apply pw_below_drewN | apply below_drew1) | exact HB.out)⟩⟩
             ·
              rw [if_neg c30] at H
              exact absurd H (by simp)
            ·
             rw [if_neg c29] at H
             have c29b0 : ((bt a1 x5_1) == 10) = false := beq_eq_false_iff_ne.mpr c29
             have c29b1 : ((bt a1 x5_1) != 10) = true := bne_iff_ne.mpr c29
             by_cases c35 : (bt a1 x5_1) = 13
             ·
              rw [if_pos c35] at H
              have c35b0 : ((bt a1 x5_1) == 13) = true := beq_iff_eq.mpr c35
              have c35b1 : ((bt a1 x5_1) != 13) = false := bne_eq_false_iff_eq.mpr c35
              clear c35
              obtain ⟨y136, hy136⟩ : ∃ y_ : List Int, y_ = (([92, 114] : List Int)) := ⟨_, rfl⟩
              replace H : (if x0_1.length + y136.length < 140737488355328 then (sjson_zzMarshal.l0 kj8 (x0_1 ++ y136) a1 (wrap64 (x5_1 + 1))) else (none)) = some r := by first | (rw [hy136]; with_reducible exact H) | (have H2_ := (Option.bind_some _ _).symm.trans H; rw [hy136]; with_reducible exact H2_) | (have H2_ := (Option.bind_some _ _).symm.trans H; with_reducible exact H2_) | with_reducible exact H | (rw [hy136]; exact H) | exact H
              have Ny136 := Aside0.mk hy136
              clear hy136
              by_cases c36 : x0_1.length + y136.length < 140737488355328
              ·
               rw [if_pos c36] at H
               have LMc36 := Aside0.mk c36
               clear c36
               obtain ⟨y139, hy139⟩ : ∃ y_ : List Int, y_ = (x0_1 ++ y136) := ⟨_, rfl⟩
               replace H : (sjson_zzMarshal.l0 kj8 y139 a1 (wrap64 (x5_1 + 1))) = some r := by first | (rw [hy139]; with_reducible exact H) | (have H2_ := (Option.bind_some _ _).symm.trans H; rw [hy139]; with_reducible exact H2_) | (have H2_ := (Option.bind_some _ _).symm.trans H; with_reducible exact H2_) | with_reducible exact H | (rw [hy139]; exact H) | exact H
               have Ny139 := Aside0.mk hy139
               clear hy139
               have H' := Aside0.mk H
               clear H
               go_wp2_with (first | ((with_reducible refine gate_dst (N := 60) rfl ?_); refine Kd.R_lit (Kd.int .u8) _ 5 ?hg (N := 60) ?hd (xs := ([92, 114] : List Int)) (inner := [.int .u8 92, .int .u8 114]) (ok := fun _ => True) (okp := fun _ => True) ?hr ?hp (fun _ hk => hk) trivial (Below.refl _ _) (Nat.le_refl _) (by simp) ?_; (case hd => rfl); (case hg => rfl); (case hr => first | (go_simp; done) | (go_simp; rfl)); (case hp => exact (Reps.one (show Kd.M (Kd.int .u8) _ _ _ 92 [.int .u8 92] from rfl) (Reps.one (show Kd.M (Kd.int .u8) _ _ _ 114 [.int .u8 114] from rfl) (Reps.none _ _)))); intro v137 w37 ho38 hb hg_ hnew_; clear hg_ hnew_; (first | rw [← Ny136.out] at ho38 | (simp only [Int.reduceToNat] at ho38; rw [← Ny136.out] at ho38)); have n0_ := Aside0.mk (Kd.R_elder' (by (with_reducible repeat (first | apply Kd.R_alloc | apply Kd.R_drewN | apply Kd.R_drew)); exact HO_0.out) (Kd.R_base ho38) hb); have n1_ := Aside0.mk (Kd.R_lower (Kd.R_new' (Kd.R_newM (M := fun k_ => (P0_ k_ ∨ w.heap.size ≤ k_)) ho38 (by first | exact HK.out.1 | exact (show Kept w _ (fun k_ => P0_ k_) from by repeat (first | (with_reducible first | exact HK.out | apply Kept.alloc | apply Kept.drewN | apply Kept.drew) | exact HK.out)).1) (fun k_ h_ => .inr h_)) (Kd.R_lt (by (with_reducible repeat (first | apply Kd.R_alloc | apply Kd.R_drewN | apply Kd.R_drew)); exact HO_0.out))) (below_size (by repeat (first | (with_reducible first | exact HB.out | apply below_alloc | apply pw_below_drewN | apply below_drew1) | exact HB.out)))); have n2_ := Aside0.mk (Kept.below (S := (fun k_ => P0_ k_)) (by repeat (first | (with_reducible first | exact HK.out | apply Kept.alloc | apply Kept.drewN | apply Kept.drew) | exact HK.out)) hb); have n3_ := Aside0.mk (below_step (by repeat (first | (with_reducible first | exact HB.out | apply below_alloc | apply pw_below_drewN | apply below_drew1) | exact HB.out)) hb); clear HO_0; clear HK; clear HB; have HO_0 := n0_; have HO138 := n1_; have HK := n2_; have HB := n3_; clear n0_ n1_ n2_ n3_; clear hb ho38; obtain ⟨Ao40, co40, eo40⟩ := Kd.R_slice HO138.out; subst eo40) | ((with_reducible refine gate_builtin (b := .append) (xs := #[.tmp 59, .tmp 60]) rfl ?_); at_builtin; refine Kd.R_append_rows (Kd.int .u8) (w0 := w0) w0.heap.size rfl (.tmp 59) (.tmp 60) 39 5 (.int .u8 0) 1 rfl Tryd.underlying39 info5 rfl (by decide) (by omega) u0 x0_1 y136 _ _ _ (fun k_ => (P0_ k_ ∨ w.heap.size ≤ k_) ∧ some k_ ≠ (.slice Ao40 y136.length co40 : Value).ownBlock) (fun _ => False) rfl rfl ?aO ?aR (fun _ _ h => h) (fun _ h => h.elim) ?aF ?aB ?aS ?aL ?_; (case aR => repeat (first | exact (Kd.R_reads' HO138.out).2.2 | (with_reducible refine Kd.C_alloc ?_ _) | (with_reducible refine Kd.C_drewN ?_ _) | (with_reducible refine Kd.C_drew ?_))); (case aB => exact (by repeat (first | (with_reducible first | exact HB.out | apply below_alloc | apply pw_below_drewN | apply below_drew1) | exact HB.out))); (case aF => exact (fun k_ hk => ⟨(.inr (Nat.le_trans (by first | exact HK.out.1 | exact (show Kept w _ (fun k_ => P0_ k_) from by repeat (first | (with_reducible first | exact HK.out | apply Kept.alloc | apply Kept.drewN | apply Kept.drew) | exact HK.out)).1) hk)), Kd.fresh' (Kd.R_lt (by (with_reducible repeat (first | apply Kd.R_alloc | apply Kd.R_drewN | apply Kd.R_drew)); exact HO138.out)) k_ hk⟩)); (case aO => exact (by (with_reducible repeat (first | apply Kd.R_alloc | apply Kd.R_drewN | apply Kd.R_drew)); exact HO_0.out)); (case aS => exact (below_size (by repeat (first | (with_reducible first | exact HB.out | apply below_alloc | apply pw_below_drewN | apply below_drew1) | exact HB.out)))); (case aL => have := LMc36.out; omega); intro v140 w39 ho hb hg hat; rw [← Ny139.out] at ho; have n0_ := Aside0.mk (Kd.R_after (ok := (fun k_ => (P0_ k_ ∨ w.heap.size ≤ k_))) (by (with_reducible repeat (first | apply Kd.R_alloc | apply Kd.R_drewN | apply Kd.R_drew)); exact Kd.R_mono HO138.out (fun _ hk => ⟨hk.1.1, hk.2⟩)) hg hat); have n1_ := Aside0.mk (hb); have n2_ := Aside0.mk (Kept.of_grown (S := (fun k_ => P0_ k_)) hg (by repeat (first | (with_reducible first | exact HK.out | apply Kept.alloc | apply Kept.drewN | apply Kept.drew) | exact HK.out)) (fun k_ e_ => (HO_0.out.1 k_ e_).1)); have n3_ := Aside0.mk (ho); clear HO138; clear HB; clear HK; clear HO_0; have HO138 := n0_; have HB := n1_; have HK := n2_; have HO141 := n3_; clear n0_ n1_ n2_ n3_; clear ho hb hg hat))
               go_roundg kj8
               case measure => have := HK1.out; have := HJ8.out; omega
               case rel => exact ⟨(y139), ((wrap64 (x5_1 + 1))), (by first | rfl | (simp; done) | (simp [nil_ne_, nil_eq_]; done) | (simp [*]; done)), H', ⟨by have := HK1.out; have := HJ8.out; omega⟩, ⟨by (with_reducible repeat (first | apply Kd.R_alloc | apply Kd.R_drewN | apply Kd.R_drew)); exact Kd.R_mono HO141.out (fun _ hk => hk.1)⟩, ⟨by repeat (first | (with_reducible first | exact HK.out | apply Kept.alloc | apply Kept.drewN | apply Kept.drew) | exact HK.out)⟩, ⟨by repeat (first | (with_reducible first | exact HB.out | apply below_alloc | apply pw_below_drewN | apply below_drew1) | exact HB.out)⟩⟩
              ·
               rw [if_neg c36] at H
               exact absurd H (by simp)
             ·
              rw [if_neg c35] at H
              have c35b0 : ((bt a1 x5_1) == 13) = false := beq_eq_false_iff_ne.mpr c35
              have c35b1 : ((bt a1 x5_1) != 13) = true := bne_iff_ne.mpr c35
              by_cases c41 : (bt a1 x5_1) = 9
              ·
               rw [if_pos c41] at H
               have c41b0 : ((bt a1 x5_1) == 9) = true := beq_iff_eq.mpr c41
               have c41b1 : ((bt a1 x5_1) != 9) = false := bne_eq_false_iff_eq.mpr c41
               clear c41
               obtain ⟨y142, hy142⟩ : ∃ y_ : List Int, y_ = (([92, 116] : List Int)) := ⟨_, rfl⟩
               replace H : (if x0_1.length + y142.length < 140737488355328 then (sjson_zzMarshal.l0 kj8 (x0_1 ++ y142) a1 (wrap64 (x5_1 + 1))) else (none)) = some r := by first | (rw [hy142]; with_reducible exact H) | (have H2_ := (Option.bind_some _ _).symm.trans H; rw [hy142]; with_reducible exact H2_) | (have H2_ := (Option.bind_some _ _).symm.trans H; with_reducible exact H2_) | with_reducible exact H | (rw [hy142]; exact H) | exact H
               have Ny142 := Aside0.mk hy142
               clear hy142
               by_cases c42 : x0_1.length + y142.length < 140737488355328
               ·
                rw [if_pos c42] at H
                have LMc42 := Aside0.mk c42
                clear c42
                obtain ⟨y145, hy145⟩ : ∃ y_ : List Int, y_ = (x0_1 ++ y142) := ⟨_, rfl⟩
                replace H : (sjson_zzMarshal.l0 kj8 y145 a1 (wrap64 (x5_1 + 1))) = some r := by first | (rw [hy145]; with_reducible exact H) | (have H2_ := (Option.bind_some _ _).symm.trans H; rw [hy145]; with_reducible exact H2_) | (have H2_ := (Option.bind_some _ _).symm.trans H; with_reducible exact H2_) | with_reducible exact H | (rw [hy145]; exact H) | exact H
                have Ny145 := Aside0.mk hy145
                clear hy145
                have H' := Aside0.mk H
                clear H
                go_wp2_with (first | ((with_reducible refine gate_dst (N := 66) rfl ?_); refine Kd.R_lit (Kd.int .u8) _ 5 ?hg (N := 66) ?hd (xs := ([92, 116] : List Int)) (inner := [.int .u8 92, .int .u8 116]) (ok := fun _ => True) (okp := fun _ => True) ?hr ?hp (fun _ hk => hk) trivial (Below.refl _ _) (Nat.le_refl _) (by simp) ?_; (case hd => rfl); (case hg => rfl); (case hr => first | (go_simp; done) | (go_simp; rfl)); (case hp => exact (Reps.one (show Kd.M (Kd.int .u8) _ _ _ 92 [.int .u8 92] from rfl) (Reps.one (show Kd.M (Kd.int .u8) _ _ _ 116 [.int .u8 116] from rfl) (Reps.none _ _)))); intro v143 w43 ho44 hb hg_ hnew_; clear hg_ hnew_; (first | rw [← Ny142.out] at ho44 | (simp only [Int.reduceToNat] at ho44; rw [← Ny142.out] at ho44)); have n0_ := Aside0.mk (Kd.R_elder' (by (with_reducible repeat (first | apply Kd.R_alloc | apply Kd.R_drewN | apply Kd.R_drew)); exact HO_0.out) (Kd.R_base ho44) hb); have n1_ := Aside0.mk (Kd.R_lower (Kd.R_new' (Kd.R_newM (M := fun k_ => (P0_ k_ ∨ w.heap.size ≤ k_)) ho44 (by first | exact HK.out.1 | exact (show Kept w _ (fun k_ => P0_ k_) from by repeat (first | (with_reducible first | exact HK.out | apply Kept.alloc | apply Kept.drewN | apply Kept.drew) | exact HK.out)).1) (fun k_ h_ => .inr h_)) (Kd.R_lt (by (with_reducible repeat (first | apply Kd.R_alloc | apply Kd.R_drewN | apply Kd.R_drew)); exact HO_0.out))) (below_size (by repeat (first | (with_reducible first | exact HB.out | apply below_alloc | apply pw_below_drewN | apply below_drew1) | exact HB.out)))); have n2_ := Aside0.mk (Kept.below (S := (fun k_ => P0_ k_)) (by repeat (first | (with_reducible first | exact HK.out | apply Kept.alloc | apply Kept.drewN | apply Kept.drew) | exact HK.out)) hb); have n3_ := Aside0.mk (below_step (by repeat (first | (with_reducible first | exact HB.out | apply below_alloc | apply pw_below_drewN | apply below_drew1) | exact HB.out)) hb); clear HO_0; clear HK; clear HB; have HO_0 := n0_; have HO144 := n1_; have HK := n2_; have HB := n3_; clear n0_ n1_ n2_ n3_; clear hb ho44; obtain ⟨Ao46, co46, eo46⟩ := Kd.R_slice HO144.out; subst eo46) | ((with_reducible refine gate_builtin (b := .append) (xs := #[.tmp 65, .tmp 66]) rfl ?_); at_builtin; refine Kd.R_append_rows (Kd.int .u8) (w0 := w0) w0.heap.size rfl (.tmp 65) (.tmp 66) 39 5 (.int .u8 0) 1 rfl Tryd.underlying39 info5 rfl (by decide) (by omega) u0 x0_1 y142 _ _ _ (fun k_ => (P0_ k_ ∨ w.heap.size ≤ k_) ∧ some k_ ≠ (.slice Ao46 y142.length co46 : Value).ownBlock) (fun _ => False) rfl rfl ?aO ?aR (fun _ _ h => h) (fun _ h => h.elim) ?aF ?aB ?aS ?aL ?_; (case aR => repeat (first | exact (Kd.R_reads' HO144.out).2.2 | (with_reducible refine Kd.C_alloc ?_ _) | (with_reducible refine Kd.C_drewN ?_ _) | (with_reducible refine Kd.C_drew ?_))); (case aB => exact (by repeat (first | (with_reducible first | exact HB.out | apply below_alloc | apply pw_below_drewN | apply below_drew1) | exact HB.out))); (case aF => exact (fun k_ hk => ⟨(.inr (Nat.le_trans (by first | exact HK.out.1 | exact (show Kept w _ (fun k_ => P0_ k_) from by repeat (first | (with_reducible first | exact HK.out | apply Kept.alloc | apply Kept.drewN | apply Kept.drew) | exact HK.out)).1) hk)), Kd.fresh' (Kd.R_lt (by (with_reducible repeat (first | apply Kd.R_alloc | apply Kd.R_drewN | apply Kd.R_drew)); exact HO144.out)) k_ hk⟩)); (case aO => exact (by (with_reducible repeat (first | apply Kd.R_alloc | apply Kd.R_drewN | apply Kd.R_drew)); exact HO_0.out)); (case aS => exact (below_size (by repeat (first | (with_reducible first | exact HB.out | apply below_alloc | apply pw_below_drewN | apply below_drew1) | exact HB.out)))); (case aL => have := LMc42.out; omega); intro v146 w45 ho hb hg hat; rw [← Ny145.out] at ho; have n0_ := Aside0.mk (Kd.R_after (ok := (fun k_ => (P0_ k_ ∨ w.heap.size ≤ k_))) (by (with_reducible repeat (first | apply Kd.R_alloc | apply Kd.R_drewN | apply Kd.R_drew)); exact Kd.R_mono HO144.out (fun _ hk => ⟨hk.1.1, hk.2⟩)) hg hat); have n1_ := Aside0.mk (hb); have n2_ := Aside0.mk (Kept.of_grown (S := (fun k_ => P0_ k_)) hg (by repeat (first | (with_reducible first | exact HK.out | apply Kept.alloc | apply Kept.drewN | apply Kept.drew) | exact HK.out)) (fun k_ e_ => (HO_0.out.1 k_ e_).1)); have n3_ := Aside0.mk (ho); clear HO144; clear HB; clear HK; clear HO_0; have HO144 := n0_; have HB := n1_; have HK := n2_; have HO147 := n3_; clear n0_ n1_ n2_ n3_; clear ho hb hg hat))
                go_roundg kj8
                case measure => have := HK1.out; have := HJ8.out; omega
                case rel => exact ⟨(y145), ((wrap64 (x5_1 + 1))), (by first | rfl | (simp; done) | (simp [nil_ne_, nil_eq_]; done) | (simp [*]; done)), H', ⟨by have := HK1.out; have := HJ8.out; omega⟩, ⟨by (with_reducible repeat (first | apply Kd.R_alloc | apply Kd.R_drewN | apply Kd.R_drew)); exact Kd.R_mono HO147.out (fun _ hk => hk.1)⟩, ⟨by repeat (first | (with_reducible first | exact HK.out | apply Kept.alloc | apply Kept.drewN | apply Kept.drew) | exact HK.out)⟩, ⟨by repeat (first | (with_reducible first | exact HB.out | apply below_alloc | apply pw_below_drewN | apply below_drew1) | exact HB.out)⟩⟩
               ·
                rw [if_neg c42] at H
                exact absurd H (by simp)
              ·
               rw [if_neg c41] at H
               have c41b0 : ((bt a1 x5_1) == 9) = false := beq_eq_false_iff_ne.mpr c41
               have c41b1 : ((bt a1 x5_1) != 9) = true := bne_iff_ne.mpr c41
               by_cases c47 : (bt a1 x5_1) < 32
               ·
                rw [if_pos c47] at H
                have c47b0 : decide ((bt a1 x5_1) < 32) = true := decide_eq_true c47
                clear c47
                obtain ⟨ji48, hji48⟩ : ∃ j_ : Int, ((bt a1 x5_1) / 16) = j_ := ⟨_, rfl⟩
                replace H : (if 0 ≤ (ji48) then (if (ji48) < 16 then (if 0 ≤ (Go.bits .and .u8 (bt a1 x5_1) 15) then (if (Go.bits .and .u8 (bt a1 x5_1) 15) < 16 then ((some (([92, 117, 48, 48, bt (⟨#[48, 49, 50, 51, 52, 53, 54, 55, 56, 57, 97, 98, 99, 100, 101, 102]⟩ : ByteArray) (ji48), bt (⟨#[48, 49, 50, 51, 52, 53, 54, 55, 56, 57, 97, 98, 99, 100, 101, 102]⟩ : ByteArray) (Go.bits .and .u8 (bt a1 x5_1) 15)] : List Int) : List Int)).bind fun y148 => (if x0_1.length + y148.length < 140737488355328 then (sjson_zzMarshal.l0 kj8 (x0_1 ++ y148) a1 (wrap64 (x5_1 + 1))) else (none))) else (none)) else (none)) else (none)) else (none)) = some r := by first | (rw [hji48] at H; exact H) | (simp only [hji48] at H ⊢; exact H)
                by_cases c49 : 0 ≤ (ji48)
                ·
                 rw [if_pos c49] at H
                 have c49b0 : decide (0 ≤ (ji48)) = true := decide_eq_true c49
                 clear c49
                 by_cases c50 : (ji48) < 16
                 ·
                  rw [if_pos c50] at H
                  have c50b0 : decide ((ji48) < 16) = true := decide_eq_true c50
                  clear c50
                  by_cases c52 : 0 ≤ (Go.bits .and .u8 (bt a1 x5_1) 15)
                  ·
                   rw [if_pos c52] at H
                   have c52b0 : decide (0 ≤ (Go.bits .and .u8 (bt a1 x5_1) 15)) = true := decide_eq_true c52
                   clear c52
                   by_cases c53 : (Go.bits .and .u8 (bt a1 x5_1) 15) < 16
                   ·
                    rw [if_pos c53] at H
                    have c53b0 : decide ((Go.bits .and .u8 (bt a1 x5_1) 15) < 16) = true := decide_eq_true c53
                    clear c53
                    obtain ⟨y148, hy148⟩ : ∃ y_ : List Int, y_ = (([92, 117, 48, 48, bt (⟨#[48, 49, 50, 51, 52, 53, 54, 55, 56, 57, 97, 98, 99, 100, 101, 102]⟩ : ByteArray) (ji48), bt (⟨#[48, 49, 50, 51, 52, 53, 54, 55, 56, 57, 97, 98, 99, 100, 101, 102]⟩ : ByteArray) (Go.bits .and .u8 (bt a1 x5_1) 15)] : List Int)) := ⟨_, rfl⟩
                    replace H : (if x0_1.length + y148.length < 140737488355328 then (sjson_zzMarshal.l0 kj8 (x0_1 ++ y148) a1 (wrap64 (x5_1 + 1))) else (none)) = some r := by first | (rw [hy148]; with_reducible exact H) | (have H2_ := (Option.bind_some _ _).symm.trans H; rw [hy148]; with_reducible exact H2_) | (have H2_ := (Option.bind_some _ _).symm.trans H; with_reducible exact H2_) | with_reducible exact H | (rw [hy148]; exact H) | exact H
                    have Ny148 := Aside0.mk hy148
                    clear hy148
                    by_cases c55 : x0_1.length + y148.length < 140737488355328
                    ·
                     rw [if_pos c55] at H
                     have LMc55 := Aside0.mk c55
                     clear c55
                     obtain ⟨y151, hy151⟩ : ∃ y_ : List Int, y_ = (x0_1 ++ y148) := ⟨_, rfl⟩
                     replace H : (sjson_zzMarshal.l0 kj8 y151 a1 (wrap64 (x5_1 + 1))) = some r := by first | (rw [hy151]; with_reducible exact H) | (have H2_ := (Option.bind_some _ _).symm.trans H; rw [hy151]; with_reducible exact H2_) | (have H2_ := (Option.bind_some _ _).symm.trans H; with_reducible exact H2_) | with_reducible exact H | (rw [hy151]; exact H) | exact H
                     have Ny151 := Aside0.mk hy151
                     clear hy151
                     have H' := Aside0.mk H
                     clear H
                     try go_wp2
                     have n0_ := Aside0.mk (Kd.R_drew HO_0.out)
                     have n1_ := Aside0.mk (Kept.drew HK.out)
                     have n2_ := Aside0.mk (below_drew1 HB.out)
                     clear HO_0
                     clear HK
                     clear HB
                     have HO_0 := n0_
                     have HK := n1_
                     have HB := n2_
                     clear n0_ n1_ n2_
                     have p51 : 0 ≤ ((ji48) : Int) := of_decide_eq_true (by first | (with_reducible assumption) | assumption)
                     have q51 : (ji48) < (16 : Int) := of_decide_eq_true (by first | (with_reducible assumption) | assumption)
                     have hx51 := bt_at (⟨#[48, 49, 50, 51, 52, 53, 54, 55, 56, 57, 97, 98, 99, 100, 101, 102]⟩ : ByteArray) (ji48)
                     replace p51 := eq_true p51
                     replace q51 := eq_true q51
                     have p54 : 0 ≤ ((Go.bits .and .u8 (bt a1 x5_1) 15) : Int) := of_decide_eq_true (by first | (with_reducible assumption) | assumption)
                     have q54 : (Go.bits .and .u8 (bt a1 x5_1) 15) < (16 : Int) := of_decide_eq_true (by first | (with_reducible assumption) | assumption)
                     have hx54 := bt_at (⟨#[48, 49, 50, 51, 52, 53, 54, 55, 56, 57, 97, 98, 99, 100, 101, 102]⟩ : ByteArray) (Go.bits .and .u8 (bt a1 x5_1) 15)
                     replace p54 := eq_true p54
                     replace q54 := eq_true q54
                     refine start_ (n := 10) (S := fun w' => True) (ds := []) #[false, false, false, false, false, false, false, false, false, false] (by kernel_rfl) rfl rfl trivial (fun hHeld => ?_); refine with_tabW sjson_zzMarshal.tab21 sjson_zzMarshal.bits21 (fun HT_ HW_ => ?_)
                     generalize wc.drew = w56 at HO_0 HK HB hHeld ⊢
                     refine pure_ (i := 0) (N := some 83) (v := ?_) (a' := ?_) #[true, false, false, false, false, false, false, false, false, false] rfl rfl (any_of HT_.out (by kernel_rfl)) (fun _ _ _ h => h) (Or.inl ⟨by rfl, ?_⟩) ?_ ?_
                     rotate_left
                     ·
                      intro w'
                      go_simp
                      with_reducible rfl
                     rotate_left
                     ·
                      simp only [Act.put, List.setIfInBounds_toArray, List.set_cons_zero, List.set_cons_succ, i64_w, i32_w]
                      rfl
                     refine pure_ (i := 1) (N := some 84) (v := ?_) (a' := ?_) #[true, true, false, false, false, false, false, false, false, false] rfl rfl (any_of HT_.out (by kernel_rfl)) (fun _ _ _ h => h) (Or.inl ⟨by rfl, ?_⟩) ?_ ?_
                     rotate_left
                     ·
                      intro w'
                      go_simp
                      with_reducible rfl
                     rotate_left
                     ·
                      simp only [Act.put, List.setIfInBounds_toArray, List.set_cons_zero, List.set_cons_succ, i64_w, i32_w]
                      rfl
                     refine pure_ (i := 2) (N := some 85) (v := ?_) (a' := ?_) #[true, true, true, false, false, false, false, false, false, false] rfl rfl (any_of HT_.out (by kernel_rfl)) (fun _ _ _ h => h) (Or.inl ⟨by rfl, ?_⟩) ?_ ?_
                     rotate_left
                     ·
                      intro w'
                      go_simp
                      with_reducible rfl
                     rotate_left
                     ·
                      simp only [Act.put, List.setIfInBounds_toArray, List.set_cons_zero, List.set_cons_succ, i64_w, i32_w]
                      rfl
                     refine pure_ (i := 4) (N := some 87) (v := ?_) (a' := ?_) #[true, true, true, false, true, false, false, false, false, false] rfl rfl (any_of HT_.out (by kernel_rfl)) (fun _ _ _ h => h) (Or.inl ⟨by rfl, ?_⟩) ?_ ?_
                     rotate_left
                     ·
                      intro w'
                      go_simp
                      with_reducible rfl
                     rotate_left
                     ·
                      simp only [Act.put, List.setIfInBounds_toArray, List.set_cons_zero, List.set_cons_succ, i64_w, i32_w]
                      rfl
                     refine pure_ (i := 5) (N := some 88) (v := ?_) (a' := ?_) #[true, true, true, false, true, true, false, false, false, false] rfl rfl (any_of HT_.out (by kernel_rfl)) (fun _ _ _ h => h) (Or.inl ⟨by rfl, ?_⟩) ?_ ?_
                     rotate_left
                     ·
                      intro w'
                      go_simp
                      with_reducible rfl
                     rotate_left
                     ·
                      simp only [Act.put, List.setIfInBounds_toArray, List.set_cons_zero, List.set_cons_succ, i64_w, i32_w]
                      rfl
                     refine take_ (i := 3) (N := some 86) (v := ?_) (a' := ?_) #[true, true, true, true, true, true, false, false, false, false] rfl rfl (take_ofW HT_.out HW_.out (by kernel_rfl)) (fun _ _ _ h => h) (Or.inl ⟨by rfl, ?_⟩) hHeld ?_ ?_
                     rotate_left
                     ·
                      intro w' _
                      go_simp
                      with_reducible rfl
                     rotate_left
                     ·
                      simp only [Act.put, List.setIfInBounds_toArray, List.set_cons_zero, List.set_cons_succ, i64_w, i32_w]
                      rfl
                     refine take_ (i := 6) (N := some 89) (v := ?_) (a' := ?_) #[true, true, true, true, true, true, true, false, false, false] rfl rfl (take_ofW HT_.out HW_.out (by kernel_rfl)) (fun _ _ _ h => h) (Or.inl ⟨by rfl, ?_⟩) hHeld ?_ ?_
                     rotate_left
                     ·
                      intro w' _
                      go_simp
                      with_reducible rfl
                     rotate_left
                     ·
                      simp only [Act.put, List.setIfInBounds_toArray, List.set_cons_zero, List.set_cons_succ, i64_w, i32_w]
                      rfl
                     refine one_ (i := 7) (N := some 90) #[true, true, true, true, true, true, true, true, false, false] rfl rfl (one_of HT_.out (by kernel_rfl)) (by decide) (fun K hK => ?_)
                     refine Kd.R_lit_step (Kd.int .u8) _ 5 ?hg (N := 90) ?hd (xs := ([92, 117, 48, 48, bt (⟨#[48, 49, 50, 51, 52, 53, 54, 55, 56, 57, 97, 98, 99, 100, 101, 102]⟩ : ByteArray) (ji48), bt (⟨#[48, 49, 50, 51, 52, 53, 54, 55, 56, 57, 97, 98, 99, 100, 101, 102]⟩ : ByteArray) (Go.bits .and .u8 (bt a1 x5_1) 15)] : List Int)) (inner := [.int .u8 92, .int .u8 117, .int .u8 48, .int .u8 48, .int .u8 (bt (⟨#[48, 49, 50, 51, 52, 53, 54, 55, 56, 57, 97, 98, 99, 100, 101, 102]⟩ : ByteArray) (ji48)), .int .u8 (bt (⟨#[48, 49, 50, 51, 52, 53, 54, 55, 56, 57, 97, 98, 99, 100, 101, 102]⟩ : ByteArray) (Go.bits .and .u8 (bt a1 x5_1) 15))]) (ok := fun _ => True) (okp := fun _ => True) ?hr ?hp (fun _ hk => hk) trivial (Below.refl _ _) (Nat.le_refl _) (by simp) ?_; (case hd => rfl); (case hg => rfl); (case hr => first | (go_simp; done) | (go_simp; rfl)); (case hp => exact (Reps.one (show Kd.M (Kd.int .u8) _ _ _ 92 [.int .u8 92] from rfl) (Reps.one (show Kd.M (Kd.int .u8) _ _ _ 117 [.int .u8 117] from rfl) (Reps.one (show Kd.M (Kd.int .u8) _ _ _ 48 [.int .u8 48] from rfl) (Reps.one (show Kd.M (Kd.int .u8) _ _ _ 48 [.int .u8 48] from rfl) (Reps.one (show Kd.M (Kd.int .u8) _ _ _ (bt (⟨#[48, 49, 50, 51, 52, 53, 54, 55, 56, 57, 97, 98, 99, 100, 101, 102]⟩ : ByteArray) (ji48)) [.int .u8 (bt (⟨#[48, 49, 50, 51, 52, 53, 54, 55, 56, 57, 97, 98, 99, 100, 101, 102]⟩ : ByteArray) (ji48))] from rfl) (Reps.one (show Kd.M (Kd.int .u8) _ _ _ (bt (⟨#[48, 49, 50, 51, 52, 53, 54, 55, 56, 57, 97, 98, 99, 100, 101, 102]⟩ : ByteArray) (Go.bits .and .u8 (bt a1 x5_1) 15)) [.int .u8 (bt (⟨#[48, 49, 50, 51, 52, 53, 54, 55, 56, 57, 97, 98, 99, 100, 101, 102]⟩ : ByteArray) (Go.bits .and .u8 (bt a1 x5_1) 15))] from rfl) (Reps.none _ _))))))))
                     intro v149 w57 ho58 hb hg_ hnew_
                     clear hg_ hnew_
                     (first | rw [← Ny148.out] at ho58 | (simp only [Int.reduceToNat] at ho58; rw [← Ny148.out] at ho58))
                     have n0_ := Aside0.mk (Kd.R_elder' (by (with_reducible repeat (first | apply Kd.R_alloc | apply Kd.R_drewN | apply Kd.R_drew)); exact HO_0.out) (Kd.R_base ho58) hb)
                     have n1_ := Aside0.mk (Kd.R_lower (Kd.R_new' (Kd.R_newM (M := fun k_ => (P0_ k_ ∨ w.heap.size ≤ k_)) ho58 (by first | exact HK.out.1 | exact (show Kept w _ (fun k_ => P0_ k_) from by repeat (first | (with_reducible first | exact HK.out | apply Kept.alloc | apply Kept.drewN | apply Kept.drew) | exact HK.out)).1) (fun k_ h_ => .inr h_)) (Kd.R_lt (by (with_reducible repeat (first | apply Kd.R_alloc | apply Kd.R_drewN | apply Kd.R_drew)); exact HO_0.out))) (below_size (by repeat (first | (with_reducible first | exact HB.out | apply below_alloc | apply pw_below_drewN | apply below_drew1) | exact HB.out))))
                     have n2_ := Aside0.mk (Kept.below (S := (fun k_ => P0_ k_)) (by repeat (first | (with_reducible first | exact HK.out | apply Kept.alloc | apply Kept.drewN | apply Kept.drew) | exact HK.out)) hb)
                     have n3_ := Aside0.mk (below_step (by repeat (first | (with_reducible first | exact HB.out | apply below_alloc | apply pw_below_drewN | apply below_drew1) | exact HB.out)) hb)
                     clear HO_0
                     clear HK
                     clear HB
                     have HO_0 := n0_
                     have HO150 := n1_
                     have HK := n2_
                     have HB := n3_
                     clear n0_ n1_ n2_ n3_
                     clear hb ho58
                     obtain ⟨Ao60, co60, eo60⟩ := Kd.R_slice HO150.out
                     (first | subst eo60 | (injection eo60 with f1_ f2_ f3_; have f4_ := f1_.symm; have f5_ := f3_.symm; clear f1_ f2_ f3_; subst f4_; subst f5_))
                     refine hK.out _ _ trivial (fun hHeld => ?_)
                     clear hK K
                     refine norm_ (a' := ?_) ?_ ?_
                     rotate_left
                     ·
                      show Act.put _ (some 90) _ = _
                      simp only [Act.put, List.setIfInBounds_toArray, List.set_cons_zero, List.set_cons_succ, i64_w, i32_w]
                      rfl
                     refine one_ (i := 8) (N := some 91) #[true, true, true, true, true, true, true, true, true, false] rfl rfl (one_of HT_.out (by kernel_rfl)) (by decide) (fun K hK => ?_)
                     refine Kd.R_append_rows_step (Kd.int .u8) (w0 := w0) w0.heap.size (by rfl) (.tmp 83) (.tmp 90) 39 5 (.int .u8 0) 1 rfl Tryd.underlying39 info5 rfl (by decide) (by omega) u0 x0_1 y148 _ _ _ (fun k_ => (P0_ k_ ∨ w.heap.size ≤ k_) ∧ some k_ ≠ (.slice Ao60 y148.length co60 : Value).ownBlock) (fun _ => False) rfl rfl ?aO ?aR (fun _ _ h => h) (fun _ h => h.elim) ?aF ?aB ?aS ?aL ?_
                     (case aR => repeat (first | exact (Kd.R_reads' HO150.out).2.2 | (with_reducible refine Kd.C_alloc ?_ _) | (with_reducible refine Kd.C_drewN ?_ _) | (with_reducible refine Kd.C_drew ?_)))
                     (case aB => exact (by repeat (first | (with_reducible first | exact HB.out | apply below_alloc | apply pw_below_drewN | apply below_drew1) | exact HB.out)))
                     (case aF => exact (fun k_ hk => ⟨(.inr (Nat.le_trans (by first | exact HK.out.1 | exact (show Kept w _ (fun k_ => P0_ k_) from by repeat (first | (with_reducible first | exact HK.out | apply Kept.alloc | apply Kept.drewN | apply Kept.drew) | exact HK.out)).1) hk)), Kd.fresh' (Kd.R_lt (by (with_reducible repeat (first | apply Kd.R_alloc | apply Kd.R_drewN | apply Kd.R_drew)); exact HO150.out)) k_ hk⟩))
                     (case aO => exact (by (with_reducible repeat (first | apply Kd.R_alloc | apply Kd.R_drewN | apply Kd.R_drew)); exact HO_0.out))
                     (case aS => exact (below_size (by repeat (first | (with_reducible first | exact HB.out | apply below_alloc | apply pw_below_drewN | apply below_drew1) | exact HB.out))))
                     (case aL => have := LMc55.out; omega)
                     intro v152 w59 ho hb hg hat
                     rw [← Ny151.out] at ho
                     have n0_ := Aside0.mk (Kd.R_after (ok := (fun k_ => (P0_ k_ ∨ w.heap.size ≤ k_))) (by (with_reducible repeat (first | apply Kd.R_alloc | apply Kd.R_drewN | apply Kd.R_drew)); exact Kd.R_mono HO150.out (fun _ hk => ⟨hk.1.1, hk.2⟩)) hg hat)
                     have n1_ := Aside0.mk (hb)
                     have n2_ := Aside0.mk (Kept.of_grown (S := (fun k_ => P0_ k_)) hg (by repeat (first | (with_reducible first | exact HK.out | apply Kept.alloc | apply Kept.drewN | apply Kept.drew) | exact HK.out)) (fun k_ e_ => (HO_0.out.1 k_ e_).1))
                     have n3_ := Aside0.mk (ho)
                     clear HO150
                     clear HB
                     clear HK
                     clear HO_0
                     have HO150 := n0_
                     have HB := n1_
                     have HK := n2_
                     have HO153 := n3_
                     clear n0_ n1_ n2_ n3_
                     clear ho hb hg hat
                     refine hK.out _ _ trivial (fun hHeld => ?_)
                     clear hK K
                     refine norm_ (a' := ?_) ?_ ?_
                     rotate_left
                     ·
                      show Act.put _ (some 91) _ = _
                      simp only [Act.put, List.setIfInBounds_toArray, List.set_cons_zero, List.set_cons_succ, i64_w, i32_w]
                      rfl
                     refine pure_ (i := 9) (N := some 0) (v := ?_) (a' := ?_) #[true, true, true, true, true, true, true, true, true, true] rfl rfl (any_of HT_.out (by kernel_rfl)) (fun _ _ _ h => h) (Or.inl ⟨by rfl, ?_⟩) ?_ ?_
                     rotate_left
                     ·
                      intro w'
                      go_simp
                      with_reducible rfl
                     rotate_left
                     ·
                      simp only [Act.put, List.setIfInBounds_toArray, List.set_cons_zero, List.set_cons_succ, i64_w, i32_w]
                      rfl
                     refine done_ (done_of HT_.out (by kernel_rfl)) ?_
                     try go_wp2
                     go_roundg kj8
                     case measure => have := HK1.out; have := HJ8.out; omega
                     case rel => exact ⟨(y151), ((wrap64 (x5_1 + 1))), (by first | rfl | (simp; done) | (simp [nil_ne_, nil_eq_]; done) | (simp [*]; done)), (by first | exact H' | (rw [hji48]; exact H') | (simp only [hji48]; exact H') | (simp only [hji48] at H' ⊢; exact H')), ⟨by have := HK1.out; have := HJ8.out; omega⟩, ⟨by (with_reducible repeat (first | apply Kd.R_alloc | apply Kd.R_drewN | apply Kd.R_drew)); exact Kd.R_mono HO153.out (fun _ hk => hk.1)⟩, ⟨by repeat (first | (with_reducible first | exact HK.out | apply Kept.alloc | apply Kept.drewN | apply Kept.drew) | exact HK.out)⟩, ⟨by repeat (first | (with_reducible first | exact HB.out | apply below_alloc | apply pw_below_drewN | apply below_drew1) | exact HB.out)⟩⟩
                    ·
                     rw [if_neg c55] at H
                     exact absurd H (by simp)
                   ·
                    rw [if_neg c53] at H
                    exact absurd H (by simp)
                  ·
                   rw [if_neg c52] at H
                   exact absurd H (by simp)
                 ·
                  rw [if_neg c50] at H
                  exact absurd H (by simp)
                ·
                 rw [if_neg c49] at H
                 exact absurd H (by simp)
               ·
                rw [if_neg c47] at H
                have c47b0 : decide ((bt a1 x5_1) < 32) = false := decide_eq_false c47
                clear c47
                by_cases c61 : (bt a1 x5_1) = 60
                ·
                 rw [if_pos c61] at H
                 have c61b0 : ((bt a1 x5_1) == 60) = true := beq_iff_eq.mpr c61
                 have c61b1 : ((bt a1 x5_1) != 60) = false := bne_eq_false_iff_eq.mpr c61
                 clear c61
                 obtain ⟨ji62, hji62⟩ : ∃ j_ : Int, ((bt a1 x5_1) / 16) = j_ := ⟨_, rfl⟩
                 replace H : (if 0 ≤ (ji62) then (if (ji62) < 16 then (if 0 ≤ (Go.bits .and .u8 (bt a1 x5_1) 15) then (if (Go.bits .and .u8 (bt a1 x5_1) 15) < 16 then ((some (([92, 117, 48, 48, bt (⟨#[48, 49, 50, 51, 52, 53, 54, 55, 56, 57, 97, 98, 99, 100, 101, 102]⟩ : ByteArray) (ji62), bt (⟨#[48, 49, 50, 51, 52, 53, 54, 55, 56, 57, 97, 98, 99, 100, 101, 102]⟩ : ByteArray) (Go.bits .and .u8 (bt a1 x5_1) 15)] : List Int) : List Int)).bind fun y154 => (if x0_1.length + y154.length < 140737488355328 then (sjson_zzMarshal.l0 kj8 (x0_1 ++ y154) a1 (wrap64 (x5_1 + 1))) else (none))) else (none)) else (none)) else (none)) else (none)) = some r := by first | (rw [hji62] at H; exact H) | (simp only [hji62] at H ⊢; exact H)
                 by_cases c63 : 0 ≤ (ji62)
                 ·
                  rw [if_pos c63] at H
                  have c63b0 : decide (0 ≤ (ji62)) = true := decide_eq_true c63
                  clear c63
                  by_cases c64 : (ji62) < 16
                  ·
                   rw [if_pos c64] at H
                   have c64b0 : decide ((ji62) < 16) = true := decide_eq_true c64
                   clear c64
                   by_cases c66 : 0 ≤ (Go.bits .and .u8 (bt a1 x5_1) 15)
                   ·
                    rw [if_pos c66] at H
                    have c66b0 : decide (0 ≤ (Go.bits .and .u8 (bt a1 x5_1) 15)) = true := decide_eq_true c66
                    clear c66
                    by_cases c67 : (Go.bits .and .u8 (bt a1 x5_1) 15) < 16
                    ·
                     rw [if_pos c67] at H
                     have c67b0 : decide ((Go.bits .and .u8 (bt a1 x5_1) 15) < 16) = true := decide_eq_true c67
                     clear c67
                     obtain ⟨y154, hy154⟩ : ∃ y_ : List Int, y_ = (([92, 117, 48, 48, bt (⟨#[48, 49, 50, 51, 52, 53, 54, 55, 56, 57, 97, 98, 99, 100, 101, 102]⟩ : ByteArray) (ji62), bt (⟨#[48, 49, 50, 51, 52, 53, 54, 55, 56, 57, 97, 98, 99, 100, 101, 102]⟩ : ByteArray) (Go.bits .and .u8 (bt a1 x5_1) 15)] : List Int)) := ⟨_, rfl⟩
                     replace H : (if x0_1.length + y154.length < 140737488355328 then (sjson_zzMarshal.l0 kj8 (x0_1 ++ y154) a1 (wrap64 (x5_1 + 1))) else (none)) = some r := by first | (rw [hy154]; with_reducible exact H) | (have H2_ := (Option.bind_some _ _).symm.trans H; rw [hy154]; with_reducible exact H2_) | (have H2_ := (Option.bind_some _ _).symm.trans H; with_reducible exact H2_) | with_reducible exact H | (rw [hy154]; exact H) | exact H
                     have Ny154 := Aside0.mk hy154
                     clear hy154
                     by_cases c69 : x0_1.length + y154.length < 140737488355328
                     ·
                      rw [if_pos c69] at H
                      have LMc69 := Aside0.mk c69
                      clear c69
                      obtain ⟨y157, hy157⟩ : ∃ y_ : List Int, y_ = (x0_1 ++ y154) := ⟨_, rfl⟩
                      replace H : (sjson_zzMarshal.l0 kj8 y157 a1 (wrap64 (x5_1 + 1))) = some r := by first | (rw [hy157]; with_reducible exact H) | (have H2_ := (Option.bind_some _ _).symm.trans H; rw [hy157]; with_reducible exact H2_) | (have H2_ := (Option.bind_some _ _).symm.trans H; with_reducible exact H2_) | with_reducible exact H | (rw [hy157]; exact H) | exact H
                      have Ny157 := Aside0.mk hy157
                      clear hy157
                      have H' := Aside0.mk H
                      clear H
                      try go_wp2
                      have n0_ := Aside0.mk (Kd.R_drew HO_0.out)
                      have n1_ := Aside0.mk (Kept.drew HK.out)
                      have n2_ := Aside0.mk (below_drew1 HB.out)
                      clear HO_0
                      clear HK
                      clear HB
                      have HO_0 := n0_
                      have HK := n1_
                      have HB := n2_
                      clear n0_ n1_ n2_
                      have p65 : 0 ≤ ((ji62) : Int) := of_decide_eq_true (by first | (with_reducible assumption) | assumption)
                      have q65 : (ji62) < (16 : Int) := of_decide_eq_true (by first | (with_reducible assumption) | assumption)
                      have hx65 := bt_at (⟨#[48, 49, 50, 51, 52, 53, 54, 55, 56, 57, 97, 98, 99, 100, 101, 102]⟩ : ByteArray) (ji62)
                      replace p65 := eq_true p65
                      replace q65 := eq_true q65
                      have p68 : 0 ≤ ((Go.bits .and .u8 (bt a1 x5_1) 15) : Int) := of_decide_eq_true (by first | (with_reducible assumption) | assumption)
                      have q68 : (Go.bits .and .u8 (bt a1 x5_1) 15) < (16 : Int) := of_decide_eq_true (by first | (with_reducible assumption) | assumption)
                      have hx68 := bt_at (⟨#[48, 49, 50, 51, 52, 53, 54, 55, 56, 57, 97, 98, 99, 100, 101, 102]⟩ : ByteArray) (Go.bits .and .u8 (bt a1 x5_1) 15)
                      replace p68 := eq_true p68
                      replace q68 := eq_true q68
                      refine start_ (n := 10) (S := fun w' => True) (ds := []) #[false, false, false, false, false, false, false, false, false, false] (by kernel_rfl) rfl rfl trivial (fun hHeld => ?_); refine with_tabW sjson_zzMarshal.tab21 sjson_zzMarshal.bits21 (fun HT_ HW_ => ?_)
                      generalize wc.drew = w70 at HO_0 HK HB hHeld ⊢
                      refine pure_ (i := 0) (N := some 83) (v := ?_) (a' := ?_) #[true, false, false, false, false, false, false, false, false, false] rfl rfl (any_of HT_.out (by kernel_rfl)) (fun _ _ _ h => h) (Or.inl ⟨by rfl, ?_⟩) ?_ ?_
                      rotate_left
                      ·
                       intro w'
                       go_simp
                       with_reducible rfl
                      rotate_left
                      ·
                       simp only [Act.put, List.setIfInBounds_toArray, List.set_cons_zero, List.set_cons_succ, i64_w, i32_w]
                       rfl
                      refine pure_ (i := 1) (N := some 84) (v := ?_) (a' := ?_) #[true, true, false, false, false, false, false, false, false, false] rfl rfl (any_of HT_.out (by kernel_rfl)) (fun _ _ _ h => h) (Or.inl ⟨by rfl, ?_⟩) ?_ ?_
                      rotate_left
                      ·
                       intro w'
                       go_simp
                       with_reducible rfl
                      rotate_left
                      ·
                       simp only [Act.put, List.setIfInBounds_toArray, List.set_cons_zero, List.set_cons_succ, i64_w, i32_w]
                       rfl
                      refine pure_ (i := 2) (N := some 85) (v := ?_) (a' := ?_) #[true, true, true, false, false, false, false, false, false, false] rfl rfl (any_of HT_.out (by kernel_rfl)) (fun _ _ _ h => h) (Or.inl ⟨by rfl, ?_⟩) ?_ ?_
                      rotate_left
                      ·
                       intro w'
                       go_simp
                       with_reducible rfl
                      rotate_left
                      ·
                       simp only [Act.put, List.setIfInBounds_toArray, List.set_cons_zero, List.set_cons_succ, i64_w, i32_w]
                       rfl
                      refine pure_ (i := 4) (N := some 87) (v := ?_) (a' := ?_) #[true, true, true, false, true, false, false, false, false, false] rfl rfl (any_of HT_.out (by kernel_rfl)) (fun _ _ _ h => h) (Or.inl ⟨by rfl, ?_⟩) ?_ ?_
                      rotate_left
                      ·
                       intro w'
                       go_simp
                       with_reducible rfl
                      rotate_left
                      ·
                       simp only [Act.put, List.setIfInBounds_toArray, List.set_cons_zero, List.set_cons_succ, i64_w, i32_w]
                       rfl
                      refine pure_ (i := 5) (N := some 88) (v := ?_) (a' := ?_) #[true, true, true, false, true, true, false, false, false, false] rfl rfl (any_of HT_.out (by kernel_rfl)) (fun _ _ _ h => h) (Or.inl ⟨by rfl, ?_⟩) ?_ ?_
                      rotate_left
                      ·
                       intro w'
                       go_simp
                       with_reducible rfl
                      rotate_left
                      ·
                       simp only [Act.put, List.setIfInBounds_toArray, List.set_cons_zero, List.set_cons_succ, i64_w, i32_w]
                       rfl
                      refine take_ (i := 3) (N := some 86) (v := ?_) (a' := ?_) #[true, true, true, true, true, true, false, false, false, false] rfl rfl (take_ofW HT_.out HW_.out (by kernel_rfl)) (fun _ _ _ h => h) (Or.inl ⟨by rfl, ?_⟩) hHeld ?_ ?_
                      rotate_left
                      ·
                       intro w' _
                       go_simp
                       with_reducible rfl
                      rotate_left
                      ·
                       simp only [Act.put, List.setIfInBounds_toArray, List.set_cons_zero, List.set_cons_succ, i64_w, i32_w]
                       rfl
                      refine take_ (i := 6) (N := some 89) (v := ?_) (a' := ?_) #[true, true, true, true, true, true, true, false, false, false] rfl rfl (take_ofW HT_.out HW_.out (by kernel_rfl)) (fun _ _ _ h => h) (Or.inl ⟨by rfl, ?_⟩) hHeld ?_ ?_
                      rotate_left
                      ·
                       intro w' _
                       go_simp
                       with_reducible rfl
                      rotate_left
                      ·
                       simp only [Act.put, List.setIfInBounds_toArray, List.set_cons_zero, List.set_cons_succ, i64_w, i32_w]
                       rfl
                      refine one_ (i := 7) (N := some 90) #[true, true, true, true, true, true, true, true, false, false] rfl rfl (one_of HT_.out (by kernel_rfl)) (by decide) (fun K hK => ?_)
                      refine Kd.R_lit_step (Kd.int .u8) _ 5 ?hg (N := 90) ?hd (xs := ([92, 117, 48, 48, bt (⟨#[48, 49, 50, 51, 52, 53, 54, 55, 56, 57, 97, 98, 99, 100, 101, 102]⟩ : ByteArray) (ji62), bt (⟨#[48, 49, 50, 51, 52, 53, 54, 55, 56, 57, 97, 98, 99, 100, 101, 102]⟩ : ByteArray) (Go.bits .and .u8 (bt a1 x5_1) 15)] : List Int)) (inner := [.int .u8 92, .int .u8 117, .int .u8 48, .int .u8 48, .int .u8 (bt (⟨#[48, 49, 50, 51, 52, 53, 54, 55, 56, 57, 97, 98, 99, 100, 101, 102]⟩ : ByteArray) (ji62)), .int .u8 (bt (⟨#[48, 49, 50, 51, 52, 53, 54, 55, 56, 57, 97, 98, 99, 100, 101, 102]⟩ : ByteArray) (Go.bits .and .u8 (bt a1 x5_1) 15))]) (ok := fun _ => True) (okp := fun _ => True) ?hr ?hp (fun _ hk => hk) trivial (Below.refl _ _) (Nat.le_refl _) (by simp) ?_; (case hd => rfl); (case hg => rfl); (case hr => first | (go_simp; done) | (go_simp; rfl)); (case hp => exact (Reps.one (show Kd.M (Kd.int .u8) _ _ _ 92 [.int .u8 92] from rfl) (Reps.one (show Kd.M (Kd.int .u8) _ _ _ 117 [.int .u8 117] from rfl) (Reps.one (show Kd.M (Kd.int .u8) _ _ _ 48 [.int .u8 48] from rfl) (Reps.one (show Kd.M (Kd.int .u8) _ _ _ 48 [.int .u8 48] from rfl) (Reps.one (show Kd.M (Kd.int .u8) _ _ _ (bt (⟨#[48, 49, 50, 51, 52, 53, 54, 55, 56, 57, 97, 98, 99, 100, 101, 102]⟩ : ByteArray) (ji62)) [.int .u8 (bt (⟨#[48, 49, 50, 51, 52, 53, 54, 55, 56, 57, 97, 98, 99, 100, 101, 102]⟩ : ByteArray) (ji62))] from rfl) (Reps.one (show Kd.M (Kd.int .u8) _ _ _ (bt (⟨#[48, 49, 50, 51, 52, 53, 54, 55, 56, 57, 97, 98, 99, 100, 101, 102]⟩ : ByteArray) (Go.bits .and .u8 (bt a1 x5_1) 15)) [.int .u8 (bt (⟨#[48, 49, 50, 51, 52, 53, 54, 55, 56, 57, 97, 98, 99, 100, 101, 102]⟩ : ByteArray) (Go.bits .and .u8 (bt a1 x5_1) 15))] from rfl) (Reps.none _ _))))))))
                      intro v155 w71 ho72 hb hg_ hnew_
                      clear hg_ hnew_
                      (first | rw [← Ny154.out] at ho72 | (simp only [Int.reduceToNat] at ho72; rw [← Ny154.out] at ho72))
                      have n0_ := Aside0.mk (Kd.R_elder' (by (with_reducible repeat (first | apply Kd.R_alloc | apply Kd.R_drewN | apply Kd.R_drew)); exact HO_0.out) (Kd.R_base ho72) hb)
                      have n1_ := Aside0.mk (Kd.R_lower (Kd.R_new' (Kd.R_newM (M := fun k_ => (P0_ k_ ∨ w.heap.size ≤ k_)) ho72 (by first | exact HK.out.1 | exact (show Kept w _ (fun k_ => P0_ k_) from by repeat (first | (with_reducible first | exact HK.out | apply Kept.alloc | apply Kept.drewN | apply Kept.drew) | exact HK.out)).1) (fun k_ h_ => .inr h_)) (Kd.R_lt (by (with_reducible repeat (first | apply Kd.R_alloc | apply Kd.R_drewN | apply Kd.R_drew)); exact HO_0.out))) (below_size (by repeat (first | (with_reducible first | exact HB.out | apply below_alloc | apply pw_below_drewN | apply below_drew1) | exact HB.out))))
                      have n2_ := Aside0.mk (Kept.below (S := (fun k_ => P0_ k_)) (by repeat (first | (with_reducible first | exact HK.out | apply Kept.alloc | apply Kept.drewN | apply Kept.drew) | exact HK.out)) hb)
                      have n3_ := Aside0.mk (below_step (by repeat (first | (with_reducible first | exact HB.out | apply below_alloc | apply pw_below_drewN | apply below_drew1) | exact HB.out)) hb)
                      clear HO_0
                      clear HK
                      clear HB
                      have HO_0 := n0_
                      have HO156 := n1_
                      have HK := n2_
                      have HB := n3_
                      clear n0_ n1_ n2_ n3_
                      clear hb ho72
                      obtain ⟨Ao74, co74, eo74⟩ := Kd.R_slice HO156.out
                      (first | subst eo74 | (injection eo74 with f1_ f2_ f3_; have f4_ := f1_.symm; have f5_ := f3_.symm; clear f1_ f2_ f3_; subst f4_; subst f5_))
                      refine hK.out _ _ trivial (fun hHeld => ?_)
                      clear hK K
                      refine norm_ (a' := ?_) ?_ ?_
                      rotate_left
                      ·
                       show Act.put _ (some 90) _ = _
                       simp only [Act.put, List.setIfInBounds_toArray, List.set_cons_zero, List.set_cons_succ, i64_w, i32_w]
                       rfl
                      refine one_ (i := 8) (N := some 91) #[true, true, true, true, true, true, true, true, true, false] rfl rfl (one_of HT_.out (by kernel_rfl)) (by decide) (fun K hK => ?_)
                      refine Kd.R_append_rows_step (Kd.int .u8) (w0 := w0) w0.heap.size (by rfl) (.tmp 83) (.tmp 90) 39 5 (.int .u8 0) 1 rfl Tryd.underlying39 info5 rfl (by decide) (by omega) u0 x0_1 y154 _ _ _ (fun k_ => (P0_ k_ ∨ w.heap.size ≤ k_) ∧ some k_ ≠ (.slice Ao74 y154.length co74 : Value).ownBlock) (fun _ => False) rfl rfl ?aO ?aR (fun _ _ h => h) (fun _ h => h.elim) ?aF ?aB ?aS ?aL ?_
                      (case aR => repeat (first | exact (Kd.R_reads' HO156.out).2.2 | (with_reducible refine Kd.C_alloc ?_ _) | (with_reducible refine Kd.C_drewN ?_ _) | (with_reducible refine Kd.C_drew ?_)))
                      (case aB => exact (by repeat (first | (with_reducible first | exact HB.out | apply below_alloc | apply pw_below_drewN | apply below_drew1) | exact HB.out)))
                      (case aF => exact (fun k_ hk => ⟨(.inr (Nat.le_trans (by first | exact HK.out.1 | exact (show Kept w _ (fun k_ => P0_ k_) from by repeat (first | (with_reducible first | exact HK.out | apply Kept.alloc | apply Kept.drewN | apply Kept.drew) | exact HK.out)).1) hk)), Kd.fresh' (Kd.R_lt (by (with_reducible repeat (first | apply Kd.R_alloc | apply Kd.R_drewN | apply Kd.R_drew)); exact HO156.out)) k_ hk⟩))
                      (case aO => exact (by (with_reducible repeat (first | apply Kd.R_alloc | apply Kd.R_drewN | apply Kd.R_drew)); exact HO_0.out))
                      (case aS => exact (below_size (by repeat (first | (with_reducible first | exact HB.out | apply below_alloc | apply pw_below_drewN | apply below_drew1) | exact HB.out))))
                      (case aL => have := LMc69.out; omega)
                      intro v158 w73 ho hb hg hat
                      rw [← Ny157.out] at ho
                      have n0_ := Aside0.mk (Kd.R_after (ok := (fun k_ => (P0_ k_ ∨ w.heap.size ≤ k_))) (by (with_reducible repeat (first | apply Kd.R_alloc | apply Kd.R_drewN | apply Kd.R_drew)); exact Kd.R_mono HO156.out (fun _ hk => ⟨hk.1.1, hk.2⟩)) hg hat)
                      have n1_ := Aside0.mk (hb)
                      have n2_ := Aside0.mk (Kept.of_grown (S := (fun k_ => P0_ k_)) hg (by repeat (first | (with_reducible first | exact HK.out | apply Kept.alloc | apply Kept.drewN | apply Kept.drew) | exact HK.out)) (fun k_ e_ => (HO_0.out.1 k_ e_).1))
                      have n3_ := Aside0.mk (ho)
                      clear HO156
                      clear HB
                      clear HK
                      clear HO_0
                      have HO156 := n0_
                      have HB := n1_
                      have HK := n2_
                      have HO159 := n3_
                      clear n0_ n1_ n2_ n3_
                      clear ho hb hg hat
                      refine hK.out _ _ trivial (fun hHeld => ?_)
                      clear hK K
                      refine norm_ (a' := ?_) ?_ ?_
                      rotate_left
                      ·
                       show Act.put _ (some 91) _ = _
                       simp only [Act.put, List.setIfInBounds_toArray, List.set_cons_zero, List.set_cons_succ, i64_w, i32_w]
                       rfl
                      refine pure_ (i := 9) (N := some 0) (v := ?_) (a' := ?_) #[true, true, true, true, true, true, true, true, true, true] rfl rfl (any_of HT_.out (by kernel_rfl)) (fun _ _ _ h => h) (Or.inl ⟨by rfl, ?_⟩) ?_ ?_
                      rotate_left
                      ·
                       intro w'
                       go_simp
                       with_reducible rfl
                      rotate_left
                      ·
                       simp only [Act.put, List.setIfInBounds_toArray, List.set_cons_zero, List.set_cons_succ, i64_w, i32_w]
                       rfl
                      refine done_ (done_of HT_.out (by kernel_rfl)) ?_
                      try go_wp2
                      go_roundg kj8
                      case measure => have := HK1.out; have := HJ8.out; omega
                      case rel => exact ⟨(y157), ((wrap64 (x5_1 + 1))), (by first | rfl | (simp; done) | (simp [nil_ne_, nil_eq_]; done) | (simp [*]; done)), (by first | exact H' | (rw [hji62]; exact H') | (simp only [hji62]; exact H') | (simp only [hji62] at H' ⊢; exact H')), ⟨by have := HK1.out; have := HJ8.out; omega⟩, ⟨by (with_reducible repeat (first | apply Kd.R_alloc | apply Kd.R_drewN | apply Kd.R_drew)); exact Kd.R_mono HO159.out (fun _ hk => hk.1)⟩, ⟨by repeat (first | (with_reducible first | exact HK.out | apply Kept.alloc | apply Kept.drewN | apply Kept.drew) | exact HK.out)⟩, ⟨by repeat (first | (with_reducible first | exact HB.out | apply below_alloc | apply pw_below_drewN | apply below_drew1) | exact HB.out)⟩⟩
                     ·
                      rw [if_neg c69] at H
                      exact absurd H (by simp)
                    ·
                     rw [if_neg c67] at H
                     exact absurd H (by simp)
                   ·
                    rw [if_neg c66] at H
                    exact absurd H (by simp)
                  ·
                   rw [if_neg c64] at H
                   exact absurd H (by simp)
                 ·
                  rw [if_neg c63] at H
                  exact absurd H (by simp)
                ·
                 rw [if_neg c61] at H
                 have c61b0 : ((bt a1 x5_1) == 60) = false := beq_eq_false_iff_ne.mpr c61
                 have c61b1 : ((bt a1 x5_1) != 60) = true := bne_iff_ne.mpr c61
                 by_cases c75 : (bt a1 x5_1) = 62
                 ·
                  rw [if_pos c75] at H
                  have c75b0 : ((bt a1 x5_1) == 62) = true := beq_iff_eq.mpr c75
                  have c75b1 : ((bt a1 x5_1) != 62) = false := bne_eq_false_iff_eq.mpr c75
                  clear c75
                  obtain ⟨ji76, hji76⟩ : ∃ j_ : Int, ((bt a1 x5_1) / 16) = j_ := ⟨_, rfl⟩
                  replace H : (if 0 ≤ (ji76) then (if (ji76) < 16 then (if 0 ≤ (Go.bits .and .u8 (bt a1 x5_1) 15) then (if (Go.bits .and .u8 (bt a1 x5_1) 15) < 16 then ((some (([92, 117, 48, 48, bt (⟨#[48, 49, 50, 51, 52, 53, 54, 55, 56, 57, 97, 98, 99, 100, 101, 102]⟩ : ByteArray) (ji76), bt (⟨#[48, 49, 50, 51, 52, 53, 54, 55, 56, 57, 97, 98, 99, 100, 101, 102]⟩ : ByteArray) (Go.bits .and .u8 (bt a1 x5_1) 15)] : List Int) : List Int)).bind fun y160 => (if x0_1.length + y160.length < 140737488355328 then (sjson_zzMarshal.l0 kj8 (x0_1 ++ y160) a1 (wrap64 (x5_1 + 1))) else (none))) else (none)) else (none)) else (none)) else (none)) = some r := by first | (rw [hji76] at H; exact H) | (simp only [hji76] at H ⊢; exact H)
                  by_cases c77 : 0 ≤ (ji76)
                  ·
                   rw [if_pos c77] at H
                   have c77b0 : decide (0 ≤ (ji76)) = true := decide_eq_true c77
                   clear c77
                   by_cases c78 : (ji76) < 16
                   ·
                    rw [if_pos c78] at H
                    have c78b0 : decide ((ji76) < 16) = true := decide_eq_true c78
                    clear c78
                    by_cases c80 : 0 ≤ (Go.bits .and .u8 (bt a1 x5_1) 15)
                    ·
                     rw [if_pos c80] at H
                     have c80b0 : decide (0 ≤ (Go.bits .and .u8 (bt a1 x5_1) 15)) = true := decide_eq_true c80
                     clear c80
                     by_cases c81 : (Go.bits .and .u8 (bt a1 x5_1) 15) < 16
                     ·
                      rw [if_pos c81] at H
                      have c81b0 : decide ((Go.bits .and .u8 (bt a1 x5_1) 15) < 16) = true := decide_eq_true c81
                      clear c81
                      obtain ⟨y160, hy160⟩ : ∃ y_ : List Int, y_ = (([92, 117, 48, 48, bt (⟨#[48, 49, 50, 51, 52, 53, 54, 55, 56, 57, 97, 98, 99, 100, 101, 102]⟩ : ByteArray) (ji76), bt (⟨#[48, 49, 50, 51, 52, 53, 54, 55, 56, 57, 97, 98, 99, 100, 101, 102]⟩ : ByteArray) (Go.bits .and .u8 (bt a1 x5_1) 15)] : List Int)) := ⟨_, rfl⟩
                      replace H : (if x0_1.length + y160.length < 140737488355328 then (sjson_zzMarshal.l0 kj8 (x0_1 ++ y160) a1 (wrap64 (x5_1 + 1))) else (none)) = some r := by first | (rw [hy160]; with_reducible exact H) | (have H2_ := (Option.bind_some _ _).symm.trans H; rw [hy160]; with_reducible exact H2_) | (have H2_ := (Option.bind_some _ _).symm.trans H; with_reducible exact H2_) | with_reducible exact H | (rw [hy160]; exact H) | exact H
                      have Ny160 := Aside0.mk hy160
                      clear hy160
                      by_cases c83 : x0_1.length + y160.length < 140737488355328
                      ·
                       rw [if_pos c83] at H
                       have LMc83 := Aside0.mk c83
                       clear c83
                       obtain ⟨y163, hy163⟩ : ∃ y_ : List Int, y_ = (x0_1 ++ y160) := ⟨_, rfl⟩
                       replace H : (sjson_zzMarshal.l0 kj8 y163 a1 (wrap64 (x5_1 + 1))) = some r := by first | (rw [hy163]; with_reducible exact H) | (have H2_ := (Option.bind_some _ _).symm.trans H; rw [hy163]; with_reducible exact H2_) | (have H2_ := (Option.bind_some _ _).symm.trans H; with_reducible exact H2_) | with_reducible exact H | (rw [hy163]; exact H) | exact H
                       have Ny163 := Aside0.mk hy163
                       clear hy163
                       have H' := Aside0.mk H
                       clear H
                       try go_wp2
                       have n0_ := Aside0.mk (Kd.R_drew HO_0.out)
                       have n1_ := Aside0.mk (Kept.drew HK.out)
                       have n2_ := Aside0.mk (below_drew1 HB.out)
                       clear HO_0
                       clear HK
                       clear HB
                       have HO_0 := n0_
                       have HK := n1_
                       have HB := n2_
                       clear n0_ n1_ n2_
                       have p79 : 0 ≤ ((ji76) : Int) := of_decide_eq_true (by first | (with_reducible assumption) | assumption)
                       have q79 : (ji76) < (16 : Int) := of_decide_eq_true (by first | (with_reducible assumption) | assumption)
                       have hx79 := bt_at (⟨#[48, 49, 50, 51, 52, 53, 54, 55, 56, 57, 97, 98, 99, 100, 101, 102]⟩ : ByteArray) (ji76)
                       replace p79 := eq_true p79
                       replace q79 := eq_true q79
                       have p82 : 0 ≤ ((Go.bits .and .u8 (bt a1 x5_1) 15) : Int) := of_decide_eq_true (by first | (with_reducible assumption) | assumption)
                       have q82 : (Go.bits .and .u8 (bt a1 x5_1) 15) < (16 : Int) := of_decide_eq_true (by first | (with_reducible assumption) | assumption)
                       have hx82 := bt_at (⟨#[48, 49, 50, 51, 52, 53, 54, 55, 56, 57, 97, 98, 99, 100, 101, 102]⟩ : ByteArray) (Go.bits .and .u8 (bt a1 x5_1) 15)
                       replace p82 := eq_true p82
                       replace q82 := eq_true q82
                       refine start_ (n := 10) (S := fun w' => True) (ds := []) #[false, false, false, false, false, false, false, false, false, false] (by kernel_rfl) rfl rfl trivial (fun hHeld => ?_); refine with_tabW sjson_zzMarshal.tab21 sjson_zzMarshal.bits21 (fun HT_ HW_ => ?_)
                       generalize wc.drew = w84 at HO_0 HK HB hHeld ⊢
                       refine pure_ (i := 0) (N := some 83) (v := ?_) (a' := ?_) #[true, false, false, false, false, false, false, false, false, false] rfl rfl (any_of HT_.out (by kernel_rfl)) (fun _ _ _ h => h) (Or.inl ⟨by rfl, ?_⟩) ?_ ?_
                       rotate_left
                       ·
                        intro w'
                        go_simp
                        with_reducible rfl
                       rotate_left
                       ·
                        simp only [Act.put, List.setIfInBounds_toArray, List.set_cons_zero, List.set_cons_succ, i64_w, i32_w]
                        rfl
                       refine pure_ (i := 1) (N := some 84) (v := ?_) (a' := ?_) #[true, true, false, false, false, false, false, false, false, false] rfl rfl (any_of HT_.out (by kernel_rfl)) (fun _ _ _ h => h) (Or.inl ⟨by rfl, ?_⟩) ?_ ?_
                       rotate_left
                       ·
                        intro w'
                        go_simp
                        with_reducible rfl
                       rotate_left
                       ·
                        simp only [Act.put, List.setIfInBounds_toArray, List.set_cons_zero, List.set_cons_succ, i64_w, i32_w]
                        rfl
                       refine pure_ (i := 2) (N := some 85) (v := ?_) (a' := ?_) #[true, true, true, false, false, false, false, false, false, false] rfl rfl (any_of HT_.out (by kernel_rfl)) (fun _ _ _ h => h) (Or.inl ⟨by rfl, ?_⟩) ?_ ?_
                       rotate_left
                       ·
                        intro w'
                        go_simp
                        with_reducible rfl
                       rotate_left
                       ·
                        simp only [Act.put, List.setIfInBounds_toArray, List.set_cons_zero, List.set_cons_succ, i64_w, i32_w]
                        rfl
                       refine pure_ (i := 4) (N := some 87) (v := ?_) (a' := ?_) #[true, true, true, false, true, false, false, false, false, false] rfl rfl (any_of HT_.out (by kernel_rfl)) (fun _ _ _ h => h) (Or.inl ⟨by rfl, ?_⟩) ?_ ?_
                       rotate_left
                       ·
                        intro w'
                        go_simp
                        with_reducible rfl
                       rotate_left
                       ·
                        simp only [Act.put, List.setIfInBounds_toArray, List.set_cons_zero, List.set_cons_succ, i64_w, i32_w]
                        rfl
                       refine pure_ (i := 5) (N := some 88) (v := ?_) (a' := ?_) #[true, true, true, false, true, true, false, false, false, false] rfl rfl (any_of HT_.out (by kernel_rfl)) (fun _ _ _ h => h) (Or.inl ⟨by rfl, ?_⟩) ?_ ?_
                       rotate_left
                       ·
                        intro w'
                        go_simp
                        with_reducible rfl
                       rotate_left
                       ·
                        simp only [Act.put, List.setIfInBounds_toArray, List.set_cons_zero, List.set_cons_succ, i64_w, i32_w]
                        rfl
                       refine take_ (i := 3) (N := some 86) (v := ?_) (a' := ?_) #[true, true, true, true, true, true, false, false, false, false] rfl rfl (take_ofW HT_.out HW_.out (by kernel_rfl)) (fun _ _ _ h => h) (Or.inl ⟨by rfl, ?_⟩) hHeld ?_ ?_
                       rotate_left
                       ·
                        intro w' _
                        go_simp
                        with_reducible rfl
                       rotate_left
                       ·
                        simp only [Act.put, List.setIfInBounds_toArray, List.set_cons_zero, List.set_cons_succ, i64_w, i32_w]
                        rfl
                       refine take_ (i := 6) (N := some 89) (v := ?_) (a' := ?_) #[true, true, true, true, true, true, true, false, false, false] rfl rfl (take_ofW HT_.out HW_.out (by kernel_rfl)) (fun _ _ _ h => h) (Or.inl ⟨by rfl, ?_⟩) hHeld ?_ ?_
                       rotate_left
                       ·
                        intro w' _
                        go_simp
                        with_reducible rfl
                       rotate_left
                       ·
                        simp only [Act.put, List.setIfInBounds_toArray, List.set_cons_zero, List.set_cons_succ, i64_w, i32_w]
                        rfl
                       refine one_ (i := 7) (N := some 90) #[true, true, true, true, true, true, true, true, false, false] rfl rfl (one_of HT_.out (by kernel_rfl)) (by decide) (fun K hK => ?_)
                       refine Kd.R_lit_step (Kd.int .u8) _ 5 ?hg (N := 90) ?hd (xs := ([92, 117, 48, 48, bt (⟨#[48, 49, 50, 51, 52, 53, 54, 55, 56, 57, 97, 98, 99, 100, 101, 102]⟩ : ByteArray) (ji76), bt (⟨#[48, 49, 50, 51, 52, 53, 54, 55, 56, 57, 97, 98, 99, 100, 101, 102]⟩ : ByteArray) (Go.bits .and .u8 (bt a1 x5_1) 15)] : List Int)) (inner := [.int .u8 92, .int .u8 117, .int .u8 48, .int .u8 48, .int .u8 (bt (⟨#[48, 49, 50, 51, 52, 53, 54, 55, 56, 57, 97, 98, 99, 100, 101, 102]⟩ : ByteArray) (ji76)), .int .u8 (bt (⟨#[48, 49, 50, 51, 52, 53, 54, 55, 56, 57, 97, 98, 99, 100, 101, 102]⟩ : ByteArray) (Go.bits .and .u8 (bt a1 x5_1) 15))]) (ok := fun _ => True) (okp := fun _ => True) ?hr ?hp (fun _ hk => hk) trivial (Below.refl _ _) (Nat.le_refl _) (by simp) ?_; (case hd => rfl); (case hg => rfl); (case hr => first | (go_simp; done) | (go_simp; rfl)); (case hp => exact (Reps.one (show Kd.M (Kd.int .u8) _ _ _ 92 [.int .u8 92] from rfl) (Reps.one (show Kd.M (Kd.int .u8) _ _ _ 117 [.int .u8 117] from rfl) (Reps.one (show Kd.M (Kd.int .u8) _ _ _ 48 [.int .u8 48] from rfl) (Reps.one (show Kd.M (Kd.int .u8) _ _ _ 48 [.int .u8 48] from rfl) (Reps.one (show Kd.M (Kd.int .u8) _ _ _ (bt (⟨#[48, 49, 50, 51, 52, 53, 54, 55, 56, 57, 97, 98, 99, 100, 101, 102]⟩ : ByteArray) (ji76)) [.int .u8 (bt (⟨#[48, 49, 50, 51, 52, 53, 54, 55, 56, 57, 97, 98, 99, 100, 101, 102]⟩ : ByteArray) (ji76))] from rfl) (Reps.one (show Kd.M (Kd.int .u8) _ _ _ (bt (⟨#[48, 49, 50, 51, 52, 53, 54, 55, 56, 57, 97, 98, 99, 100, 101, 102]⟩ : ByteArray) (Go.bits .and .u8 (bt a1 x5_1) 15)) [.int .u8 (bt (⟨#[48, 49, 50, 51, 52, 53, 54, 55, 56, 57, 97, 98, 99, 100, 101, 102]⟩ : ByteArray) (Go.bits .and .u8 (bt a1 x5_1) 15))] from rfl) (Reps.none _ _))))))))
                       intro v161 w85 ho86 hb hg_ hnew_
                       clear hg_ hnew_
                       (first | rw [← Ny160.out] at ho86 | (simp only [Int.reduceToNat] at ho86; rw [← Ny160.out] at ho86))
                       have n0_ := Aside0.mk (Kd.R_elder' (by (with_reducible repeat (first | apply Kd.R_alloc | apply Kd.R_drewN | apply Kd.R_drew)); exact HO_0.out) (Kd.R_base ho86) hb)
                       have n1_ := Aside0.mk (Kd.R_lower (Kd.R_new' (Kd.R_newM (M := fun k_ => (P0_ k_ ∨ w.heap.size ≤ k_)) ho86 (by first | exact HK.out.1 | exact (show Kept w _ (fun k_ => P0_ k_) from by repeat (first | (with_reducible first | exact HK.out | apply Kept.alloc | apply Kept.drewN | apply Kept.drew) | exact HK.out)).1) (fun k_ h_ => .inr h_)) (Kd.R_lt (by (with_reducible repeat (first | apply Kd.R_alloc | apply Kd.R_drewN | apply Kd.R_drew)); exact HO_0.out))) (below_size (by repeat (first | (with_reducible first | exact HB.out | apply below_alloc | apply pw_below_drewN | apply below_drew1) | exact HB.out))))
                       have n2_ := Aside0.mk (Kept.below (S := (fun k_ => P0_ k_)) (by repeat (first | (with_reducible first | exact HK.out | apply Kept.alloc | apply Kept.drewN | apply Kept.drew) | exact HK.out)) hb)
                       have n3_ := Aside0.mk (below_step (by repeat (first | (with_reducible first | exact HB.out | apply below_alloc | apply pw_below_drewN | apply below_drew1) | exact HB.out)) hb)
                       clear HO_0
                       clear HK
                       clear HB
                       have HO_0 := n0_
                       have HO162 := n1_
                       have HK := n2_
                       have HB := n3_
                       clear n0_ n1_ n2_ n3_
                       clear hb ho86
                       obtain ⟨Ao88, co88, eo88⟩ := Kd.R_slice HO162.out
                       (first | subst eo88 | (injection eo88 with f1_ f2_ f3_; have f4_ := f1_.symm; have f5_ := f3_.symm; clear f1_ f2_ f3_; subst f4_; subst f5_))
                       refine hK.out _ _ trivial (fun hHeld => ?_)
                       clear hK K
                       refine norm_ (a' := ?_) ?_ ?_
                       rotate_left
                       ·
                        show Act.put _ (some 90) _ = _
                        simp only [Act.put, List.setIfInBounds_toArray, List.set_cons_zero, List.set_cons_succ, i64_w, i32_w]
                        rfl
                       refine one_ (i := 8) (N := some 91) #[true, true, true, true, true, true, true, true, true, false] rfl rfl (one_of HT_.out (by kernel_rfl)) (by decide) (fun K hK => ?_)
                       refine Kd.R_append_rows_step (Kd.int .u8) (w0 := w0) w0.heap.size (by rfl) (.tmp 83) (.tmp 90) 39 5 (.int .u8 0) 1 rfl Tryd.underlying39 info5 rfl (by decide) (by omega) u0 x0_1 y160 _ _ _ (fun k_ => (P0_ k_ ∨ w.heap.size ≤ k_) ∧ some k_ ≠ (.slice Ao88 y160.length co88 : Value).ownBlock) (fun _ => False) rfl rfl ?aO ?aR (fun _ _ h => h) (fun _ h => h.elim) ?aF ?aB ?aS ?aL ?_
                       (case aR => repeat (first | exact (Kd.R_reads' HO162.out).2.2 | (with_reducible refine Kd.C_alloc ?_ _) | (with_reducible refine Kd.C_drewN ?_ _) | (with_reducible refine Kd.C_drew ?_)))
                       (case aB => exact (by repeat (first | (with_reducible first | exact HB.out | apply below_alloc | apply pw_below_drewN | apply below_drew1) | exact HB.out)))
                       (case aF => exact (fun k_ hk => ⟨(.inr (Nat.le_trans (by first | exact HK.out.1 | exact (show Kept w _ (fun k_ => P0_ k_) from by repeat (first | (with_reducible first | exact HK.out | apply Kept.alloc | apply Kept.drewN | apply Kept.drew) | exact HK.out)).1) hk)), Kd.fresh' (Kd.R_lt (by (with_reducible repeat (first | apply Kd.R_alloc | apply Kd.R_drewN | apply Kd.R_drew)); exact HO162.out)) k_ hk⟩))
                       (case aO => exact (by (with_reducible repeat (first | apply Kd.R_alloc | apply Kd.R_drewN | apply Kd.R_drew)); exact HO_0.out))
                       (case aS => exact (below_size (by repeat (first | (with_reducible first | exact HB.out | apply below_alloc | apply pw_below_drewN | apply below_drew1) | exact HB.out))))
                       (case aL => have := LMc83.out; omega)
                       intro v164 w87 ho hb hg hat
                       rw [← Ny163.out] at ho
                       have n0_ := Aside0.mk (Kd.R_after (ok := (fun k_ => (P0_ k_ ∨ w.heap.size ≤ k_))) (by (with_reducible repeat (first | apply Kd.R_alloc | apply Kd.R_drewN | apply Kd.R_drew)); exact Kd.R_mono HO162.out (fun _ hk => ⟨hk.1.1, hk.2⟩)) hg hat)
                       have n1_ := Aside0.mk (hb)
                       have n2_ := Aside0.mk (Kept.of_grown (S := (fun k_ => P0_ k_)) hg (by repeat (first | (with_reducible first | exact HK.out | apply Kept.alloc | apply Kept.drewN | apply Kept.drew) | exact HK.out)) (fun k_ e_ => (HO_0.out.1 k_ e_).1))
                       have n3_ := Aside0.mk (ho)
                       clear HO162
                       clear HB
                       clear HK
                       clear HO_0
                       have HO162 := n0_
                       have HB := n1_
                       have HK := n2_
                       have HO165 := n3_
                       clear n0_ n1_ n2_ n3_
                       clear ho hb hg hat
                       refine hK.out _ _ trivial (fun hHeld => ?_)
                       clear hK K
                       refine norm_ (a' := ?_) ?_ ?_
                       rotate_left
                       ·
                        show Act.put _ (some 91) _ = _
                        simp only [Act.put, List.setIfInBounds_toArray, List.set_cons_zero, List.set_cons_succ, i64_w, i32_w]
                        rfl
                       refine pure_ (i := 9) (N := some 0) (v := ?_) (a' := ?_) #[true, true, true, true, true, true, true, true, true, true] rfl rfl (any_of HT_.out (by kernel_rfl)) (fun _ _ _ h => h) (Or.inl ⟨by rfl, ?_⟩) ?_ ?_
                       rotate_left
                       ·
                        intro w'
                        go_simp
                        with_reducible rfl
                       rotate_left
                       ·
                        simp only [Act.put, List.setIfInBounds_toArray, List.set_cons_zero, List.set_cons_succ, i64_w, i32_w]
                        rfl
                       refine done_ (done_of HT_.out (by kernel_rfl)) ?_
                       try go_wp2
                       go_roundg kj8
                       case measure => have := HK1.out; have := HJ8.out; omega
                       case rel => exact ⟨(y163), ((wrap64 (x5_1 + 1))), (by first | rfl | (simp; done) | (simp [nil_ne_, nil_eq_]; done) | (simp [*]; done)), (by first | exact H' | (rw [hji76]; exact H') | (simp only [hji76]; exact H') | (simp only [hji76] at H' ⊢; exact H')), ⟨by have := HK1.out; have := HJ8.out; omega⟩, ⟨by (with_reducible repeat (first | apply Kd.R_alloc | apply Kd.R_drewN | apply Kd.R_drew)); exact Kd.R_mono HO165.out (fun _ hk => hk.1)⟩, ⟨by repeat (first | (with_reducible first | exact HK.out | apply Kept.alloc | apply Kept.drewN | apply Kept.drew) | exact HK.out)⟩, ⟨by repeat (first | (with_reducible first | exact HB.out | apply below_alloc | apply pw_below_drewN | apply below_drew1) | exact HB.out)⟩⟩
                      ·
                       rw [if_neg c83] at H
                       exact absurd H (by simp)
                     ·
                      rw [if_neg c81] at H
                      exact absurd H (by simp)
                    ·
                     rw [if_neg c80] at H
                     exact absurd H (by simp)
                   ·
                    rw [if_neg c78] at H
                    exact absurd H (by simp)
                  ·
                   rw [if_neg c77] at H
                   exact absurd H (by simp)
                 ·
                  rw [if_neg c75] at H
                  have c75b0 : ((bt a1 x5_1) == 62) = false := beq_eq_false_iff_ne.mpr c75
                  have c75b1 : ((bt a1 x5_1) != 62) = true := bne_iff_ne.mpr c75
                  by_cases c89 : (bt a1 x5_1) = 38
                  ·
                   rw [if_pos c89] at H
                   have c89b0 : ((bt a1 x5_1) == 38) = true := beq_iff_eq.mpr c89
                   have c89b1 : ((bt a1 x5_1) != 38) = false := bne_eq_false_iff_eq.mpr c89
                   clear c89
                   obtain ⟨ji90, hji90⟩ : ∃ j_ : Int, ((bt a1 x5_1) / 16) = j_ := ⟨_, rfl⟩
                   replace H : (if 0 ≤ (ji90) then (if (ji90) < 16 then (if 0 ≤ (Go.bits .and .u8 (bt a1 x5_1) 15) then (if (Go.bits .and .u8 (bt a1 x5_1) 15) < 16 then ((some (([92, 117, 48, 48, bt (⟨#[48, 49, 50, 51, 52, 53, 54, 55, 56, 57, 97, 98, 99, 100, 101, 102]⟩ : ByteArray) (ji90), bt (⟨#[48, 49, 50, 51, 52, 53, 54, 55, 56, 57, 97, 98, 99, 100, 101, 102]⟩ : ByteArray) (Go.bits .and .u8 (bt a1 x5_1) 15)] : List Int) : List Int)).bind fun y166 => (if x0_1.length + y166.length < 140737488355328 then (sjson_zzMarshal.l0 kj8 (x0_1 ++ y166) a1 (wrap64 (x5_1 + 1))) else (none))) else (none)) else (none)) else (none)) else (none)) = some r := by first | (rw [hji90] at H; exact H) | (simp only [hji90] at H ⊢; exact H)
                   by_cases c91 : 0 ≤ (ji90)
                   ·
                    rw [if_pos c91] at H
                    have c91b0 : decide (0 ≤ (ji90)) = true := decide_eq_true c91
                    clear c91
                    by_cases c92 : (ji90) < 16
                    ·
                     rw [if_pos c92] at H
                     have c92b0 : decide ((ji90) < 16) = true := decide_eq_true c92
                     clear c92
                     by_cases c94 : 0 ≤ (Go.bits .and .u8 (bt a1 x5_1) 15)
                     ·
                      rw [if_pos c94] at H
                      have c94b0 : decide (0 ≤ (Go.bits .and .u8 (bt a1 x5_1) 15)) = true := decide_eq_true c94
                      clear c94
                      by_cases c95 : (Go.bits .and .u8 (bt a1 x5_1) 15) < 16
                      ·
                       rw [if_pos c95] at H
                       have c95b0 : decide ((Go.bits .and .u8 (bt a1 x5_1) 15) < 16) = true := decide_eq_true c95
                       clear c95
                       obtain ⟨y166, hy166⟩ : ∃ y_ : List Int, y_ = (([92, 117, 48, 48, bt (⟨#[48, 49, 50, 51, 52, 53, 54, 55, 56, 57, 97, 98, 99, 100, 101, 102]⟩ : ByteArray) (ji90), bt (⟨#[48, 49, 50, 51, 52, 53, 54, 55, 56, 57, 97, 98, 99, 100, 101, 102]⟩ : ByteArray) (Go.bits .and .u8 (bt a1 x5_1) 15)] : List Int)) := ⟨_, rfl⟩
                       replace H : (if x0_1.length + y166.length < 140737488355328 then (sjson_zzMarshal.l0 kj8 (x0_1 ++ y166) a1 (wrap64 (x5_1 + 1))) else (none)) = some r := by first | (rw [hy166]; with_reducible exact H) | (have H2_ := (Option.bind_some _ _).symm.trans H; rw [hy166]; with_reducible exact H2_) | (have H2_ := (Option.bind_some _ _).symm.trans H; with_reducible exact H2_) | with_reducible exact H | (rw [hy166]; exact H) | exact H
                       have Ny166 := Aside0.mk hy166
                       clear hy166
                       by_cases c97 : x0_1.length + y166.length < 140737488355328
                       ·
                        rw [if_pos c97] at H
                        have LMc97 := Aside0.mk c97
                        clear c97
                        obtain ⟨y169, hy169⟩ : ∃ y_ : List Int, y_ = (x0_1 ++ y166) := ⟨_, rfl⟩
                        replace H : (sjson_zzMarshal.l0 kj8 y169 a1 (wrap64 (x5_1 + 1))) = some r := by first | (rw [hy169]; with_reducible exact H) | (have H2_ := (Option.bind_some _ _).symm.trans H; rw [hy169]; with_reducible exact H2_) | (have H2_ := (Option.bind_some _ _).symm.trans H; with_reducible exact H2_) | with_reducible exact H | (rw [hy169]; exact H) | exact H
                        have Ny169 := Aside0.mk hy169
                        clear hy169
                        have H' := Aside0.mk H
                        clear H
                        try go_wp2
                        have n0_ := Aside0.mk (Kd.R_drew HO_0.out)
                        have n1_ := Aside0.mk (Kept.drew HK.out)
                        have n2_ := Aside0.mk (below_drew1 HB.out)
                        clear HO_0
                        clear HK
                        clear HB
                        have HO_0 := n0_
                        have HK := n1_
                        have HB := n2_
                        clear n0_ n1_ n2_
                        have p93 : 0 ≤ ((ji90) : Int) := of_decide_eq_true (by first | (with_reducible assumption) | assumption)
                        have q93 : (ji90) < (16 : Int) := of_decide_eq_true (by first | (with_reducible assumption) | assumption)
                        have hx93 := bt_at (⟨#[48, 49, 50, 51, 52, 53, 54, 55, 56, 57, 97, 98, 99, 100, 101, 102]⟩ : ByteArray) (ji90)
                        replace p93 := eq_true p93
                        replace q93 := eq_true q93
                        have p96 : 0 ≤ ((Go.bits .and .u8 (bt a1 x5_1) 15) : Int) := of_decide_eq_true (by first | (with_reducible assumption) | assumption)
                        have q96 : (Go.bits .and .u8 (bt a1 x5_1) 15) < (16 : Int) := of_decide_eq_true (by first | (with_reducible assumption) | assumption)
                        have hx96 := bt_at (⟨#[48, 49, 50, 51, 52, 53, 54, 55, 56, 57, 97, 98, 99, 100, 101, 102]⟩ : ByteArray) (Go.bits .and .u8 (bt a1 x5_1) 15)
                        replace p96 := eq_true p96
                        replace q96 := eq_true q96
                        refine start_ (n := 10) (S := fun w' => True) (ds := []) #[false, false, false, false, false, false, false, false, false, false] (by kernel_rfl) rfl rfl trivial (fun hHeld => ?_); refine with_tabW sjson_zzMarshal.tab21 sjson_zzMarshal.bits21 (fun HT_ HW_ => ?_)
                        generalize wc.drew = w98 at HO_0 HK HB hHeld ⊢
                        refine pure_ (i := 0) (N := some 83) (v := ?_) (a' := ?_) #[true, false, false, false, false, false, false, false, false, false] rfl rfl (any_of HT_.out (by kernel_rfl)) (fun _ _ _ h => h) (Or.inl ⟨by rfl, ?_⟩) ?_ ?_
                        rotate_left
                        ·
                         intro w'
                         go_simp
                         with_reducible rfl
                        rotate_left
                        ·
                         simp only [Act.put, List.setIfInBounds_toArray, List.set_cons_zero, List.set_cons_succ, i64_w, i32_w]
                         rfl
                        refine pure_ (i := 1) (N := some 84) (v := ?_) (a' := ?_) #[true, true, false, false, false, false, false, false, false, false] rfl rfl (any_of HT_.out (by kernel_rfl)) (fun _ _ _ h => h) (Or.inl ⟨by rfl, ?_⟩) ?_ ?_
                        rotate_left
                        ·
                         intro w'
                         go_simp
                         with_reducible rfl
                        rotate_left
                        ·
                         simp only [Act.put, List.setIfInBounds_toArray, List.set_cons_zero, List.set_cons_succ, i64_w, i32_w]
                         rfl
                        refine pure_ (i := 2) (N := some 85) (v := ?_) (a' := ?_) #[true, true, true, false, false, false, false, false, false, false] rfl rfl (any_of HT_.out (by kernel_rfl)) (fun _ _ _ h => h) (Or.inl ⟨by rfl, ?_⟩) ?_ ?_
                        rotate_left
                        ·
                         intro w'
                         go_simp
                         with_reducible rfl
                        rotate_left
                        ·
                         simp only [Act.put, List.setIfInBounds_toArray, List.set_cons_zero, List.set_cons_succ, i64_w, i32_w]
                         rfl
                        refine pure_ (i := 4) (N := some 87) (v := ?_) (a' := ?_) #[true, true, true, false, true, false, false, false, false, false] rfl rfl (any_of HT_.out (by kernel_rfl)) (fun _ _ _ h => h) (Or.inl ⟨by rfl, ?_⟩) ?_ ?_
                        rotate_left
                        ·
                         intro w'
                         go_simp
                         with_reducible rfl
                        rotate_left
                        ·
                         simp only [Act.put, List.setIfInBounds_toArray, List.set_cons_zero, List.set_cons_succ, i64_w, i32_w]
                         rfl
                        refine pure_ (i := 5) (N := some 88) (v := ?_) (a' := ?_) #[true, true, true, false, true, true, false, false, false, false] rfl rfl (any_of HT_.out (by kernel_rfl)) (fun _ _ _ h => h) (Or.inl ⟨by rfl, ?_⟩) ?_ ?_
                        rotate_left
                        ·
                         intro w'
                         go_simp
                         with_reducible rfl
                        rotate_left
                        ·
                         simp only [Act.put, List.setIfInBounds_toArray, List.set_cons_zero, List.set_cons_succ, i64_w, i32_w]
                         rfl
                        refine take_ (i := 3) (N := some 86) (v := ?_) (a' := ?_) #[true, true, true, true, true, true, false, false, false, false] rfl rfl (take_ofW HT_.out HW_.out (by kernel_rfl)) (fun _ _ _ h => h) (Or.inl ⟨by rfl, ?_⟩) hHeld ?_ ?_
                        rotate_left
                        ·
                         intro w' _
                         go_simp
                         with_reducible rfl
                        rotate_left
                        ·
                         simp only [Act.put, List.setIfInBounds_toArray, List.set_cons_zero, List.set_cons_succ, i64_w, i32_w]
                         rfl
                        refine take_ (i := 6) (N := some 89) (v := ?_) (a' := ?_) #[true, true, true, true, true, true, true, false, false, false] rfl rfl (take_ofW HT_.out HW_.out (by kernel_rfl)) (fun _ _ _ h => h) (Or.inl ⟨by rfl, ?_⟩) hHeld ?_ ?_
                        rotate_left
                        ·
                         intro w' _
                         go_simp
                         with_reducible rfl
                        rotate_left
                        ·
                         simp only [Act.put, List.setIfInBounds_toArray, List.set_cons_zero, List.set_cons_succ, i64_w, i32_w]
                         rfl
                        refine one_ (i := 7) (N := some 90) #[true, true, true, true, true, true, true, true, false, false] rfl rfl (one_of HT_.out (by kernel_rfl)) (by decide) (fun K hK => ?_)
                        refine Kd.R_lit_step (Kd.int .u8) _ 5 ?hg (N := 90) ?hd (xs := ([92, 117, 48, 48, bt (⟨#[48, 49, 50, 51, 52, 53, 54, 55, 56, 57, 97, 98, 99, 100, 101, 102]⟩ : ByteArray) (ji90), bt (⟨#[48, 49, 50, 51, 52, 53, 54, 55, 56, 57, 97, 98, 99, 100, 101, 102]⟩ : ByteArray) (Go.bits .and .u8 (bt a1 x5_1) 15)] : List Int)) (inner := [.int .u8 92, .int .u8 117, .int .u8 48, .int .u8 48, .int .u8 (bt (⟨#[48, 49, 50, 51, 52, 53, 54, 55, 56, 57, 97, 98, 99, 100, 101, 102]⟩ : ByteArray) (ji90)), .int .u8 (bt (⟨#[48, 49, 50, 51, 52, 53, 54, 55, 56, 57, 97, 98, 99, 100, 101, 102]⟩ : ByteArray) (Go.bits .and .u8 (bt a1 x5_1) 15))]) (ok := fun _ => True) (okp := fun _ => True) ?hr ?hp (fun _ hk => hk) trivial (Below.refl _ _) (Nat.le_refl _) (by simp) ?_; (case hd => rfl); (case hg => rfl); (case hr => first | (go_simp; done) | (go_simp; rfl)); (case hp => exact (Reps.one (show Kd.M (Kd.int .u8) _ _ _ 92 [.int .u8 92] from rfl) (Reps.one (show Kd.M (Kd.int .u8) _ _ _ 117 [.int .u8 117] from rfl) (Reps.one (show Kd.M (Kd.int .u8) _ _ _ 48 [.int .u8 48] from rfl) (Reps.one (show Kd.M (Kd.int .u8) _ _ _ 48 [.int .u8 48] from rfl) (Reps.one (show Kd.M (Kd.int .u8) _ _ _ (bt (⟨#[48, 49, 50, 51, 52, 53, 54, 55, 56, 57, 97, 98, 99, 100, 101, 102]⟩ : ByteArray) (ji90)) [.int .u8 (bt (⟨#[48, 49, 50, 51, 52, 53, 54, 55, 56, 57, 97, 98, 99, 100, 101, 102]⟩ : ByteArray) (ji90))] from rfl) (Reps.one (show Kd.M (Kd.int .u8) _ _ _ (bt (⟨#[48, 49, 50, 51, 52, 53, 54, 55, 56, 57, 97, 98, 99, 100, 101, 102]⟩ : ByteArray) (Go.bits .and .u8 (bt a1 x5_1) 15)) [.int .u8 (bt (⟨#[48, 49, 50, 51, 52, 53, 54, 55, 56, 57, 97, 98, 99, 100, 101, 102]⟩ : ByteArray) (Go.bits .and .u8 (bt a1 x5_1) 15))] from rfl) (Reps.none _ _))))))))
                        intro v167 w99 ho100 hb hg_ hnew_
                        clear hg_ hnew_
                        (first | rw [← Ny166.out] at ho100 | (simp only [Int.reduceToNat] at ho100; rw [← Ny166.out] at ho100))
                        have n0_ := Aside0.mk (Kd.R_elder' (by (with_reducible repeat (first | apply Kd.R_alloc | apply Kd.R_drewN | apply Kd.R_drew)); exact HO_0.out) (Kd.R_base ho100) hb)
                        have n1_ := Aside0.mk (Kd.R_lower (Kd.R_new' (Kd.R_newM (M := fun k_ => (P0_ k_ ∨ w.heap.size ≤ k_)) ho100 (by first | exact HK.out.1 | exact (show Kept w _ (fun k_ => P0_ k_) from by repeat (first | (with_reducible first | exact HK.out | apply Kept.alloc | apply Kept.drewN | apply Kept.drew) | exact HK.out)).1) (fun k_ h_ => .inr h_)) (Kd.R_lt (by (with_reducible repeat (first | apply Kd.R_alloc | apply Kd.R_drewN | apply Kd.R_drew)); exact HO_0.out))) (below_size (by repeat (first | (with_reducible first | exact HB.out | apply below_alloc | apply pw_below_drewN | apply below_drew1) | exact HB.out))))
                        have n2_ := Aside0.mk (Kept.below (S := (fun k_ => P0_ k_)) (by repeat (first | (with_reducible first | exact HK.out | apply Kept.alloc | apply Kept.drewN | apply Kept.drew) | exact HK.out)) hb)
                        have n3_ := Aside0.mk (below_step (by repeat (first | (with_reducible first | exact HB.out | apply below_alloc | apply pw_below_drewN | apply below_drew1) | exact HB.out)) hb)
                        clear HO_0
                        clear HK
                        clear HB
                        have HO_0 := n0_
                        have HO168 := n1_
                        have HK := n2_
                        have HB := n3_
                        clear n0_ n1_ n2_ n3_
                        clear hb ho100
                        obtain ⟨Ao102, co102, eo102⟩ := Kd.R_slice HO168.out
                        (first | subst eo102 | (injection eo102 with f1_ f2_ f3_; have f4_ := f1_.symm; have f5_ := f3_.symm; clear f1_ f2_ f3_; subst f4_; subst f5_))
                        refine hK.out _ _ trivial (fun hHeld => ?_)
                        clear hK K
                        refine norm_ (a' := ?_) ?_ ?_
                        rotate_left
                        ·
                         show Act.put _ (some 90) _ = _
                         simp only [Act.put, List.setIfInBounds_toArray, List.set_cons_zero, List.set_cons_succ, i64_w, i32_w]
                         rfl
                        refine one_ (i := 8) (N := some 91) #[true, true, true, true, true, true, true, true, true, false] rfl rfl (one_of HT_.out (by kernel_rfl)) (by decide) (fun K hK => ?_)
                        refine Kd.R_append_rows_step (Kd.int .u8) (w0 := w0) w0.heap.size (by rfl) (.tmp 83) (.tmp 90) 39 5 (.int .u8 0) 1 rfl Tryd.underlying39 info5 rfl (by decide) (by omega) u0 x0_1 y166 _ _ _ (fun k_ => (P0_ k_ ∨ w.heap.size ≤ k_) ∧ some k_ ≠ (.slice Ao102 y166.length co102 : Value).ownBlock) (fun _ => False) rfl rfl ?aO ?aR (fun _ _ h => h) (fun _ h => h.elim) ?aF ?aB ?aS ?aL ?_
                        (case aR => repeat (first | exact (Kd.R_reads' HO168.out).2.2 | (with_reducible refine Kd.C_alloc ?_ _) | (with_reducible refine Kd.C_drewN ?_ _) | (with_reducible refine Kd.C_drew ?_)))
                        (case aB => exact (by repeat (first | (with_reducible first | exact HB.out | apply below_alloc | apply pw_below_drewN | apply below_drew1) | exact HB.out)))
                        (case aF => exact (fun k_ hk => ⟨(.inr (Nat.le_trans (by first | exact HK.out.1 | exact (show Kept w _ (fun k_ => P0_ k_) from by repeat (first | (with_reducible first | exact HK.out | apply Kept.alloc | apply Kept.drewN | apply Kept.drew) | exact HK.out)).1) hk)), Kd.fresh' (Kd.R_lt (by (with_reducible repeat (first | apply Kd.R_alloc | apply Kd.R_drewN | apply Kd.R_drew)); exact HO168.out)) k_ hk⟩))
                        (case aO => exact (by (with_reducible repeat (first | apply Kd.R_alloc | apply Kd.R_drewN | apply Kd.R_drew)); exact HO_0.out))
                        (case aS => exact (below_size (by repeat (first | (with_reducible first | exact HB.out | apply below_alloc | apply pw_below_drewN | apply below_drew1) | exact HB.out))))
                        (case aL => have := LMc97.out; omega)
                        intro v170 w101 ho hb hg hat
                        rw [← Ny169.out] at ho
                        have n0_ := Aside0.mk (Kd.R_after (ok := (fun k_ => (P0_ k_ ∨ w.heap.size ≤ k_))) (by (with_reducible repeat (first | apply Kd.R_alloc | apply Kd.R_drewN | apply Kd.R_drew)); exact Kd.R_mono HO168.out (fun _ hk => ⟨hk.1.1, hk.2⟩)) hg hat)
                        have n1_ := Aside0.mk (hb)
                        have n2_ := Aside0.mk (Kept.of_grown (S := (fun k_ => P0_ k_)) hg (by repeat (first | (with_reducible first | exact HK.out | apply Kept.alloc | apply Kept.drewN | apply Kept.drew) | exact HK.out)) (fun k_ e_ => (HO_0.out.1 k_ e_).1))
                        have n3_ := Aside0.mk (ho)
                        clear HO168
                        clear HB
                        clear HK
                        clear HO_0
                        have HO168 := n0_
                        have HB := n1_
                        have HK := n2_
                        have HO171 := n3_
                        clear n0_ n1_ n2_ n3_
                        clear ho hb hg hat
                        refine hK.out _ _ trivial (fun hHeld => ?_)
                        clear hK K
                        refine norm_ (a' := ?_) ?_ ?_
                        rotate_left
                        ·
                         show Act.put _ (some 91) _ = _
                         simp only [Act.put, List.setIfInBounds_toArray, List.set_cons_zero, List.set_cons_succ, i64_w, i32_w]
                         rfl
                        refine pure_ (i := 9) (N := some 0) (v := ?_) (a' := ?_) #[true, true, true, true, true, true, true, true, true, true] rfl rfl (any_of HT_.out (by kernel_rfl)) (fun _ _ _ h => h) (Or.inl ⟨by rfl, ?_⟩) ?_ ?_
                        rotate_left
                        ·
                         intro w'
                         go_simp
                         with_reducible rfl
                        rotate_left
                        ·
                         simp only [Act.put, List.setIfInBounds_toArray, List.set_cons_zero, List.set_cons_succ, i64_w, i32_w]
                         rfl
                        refine done_ (done_of HT_.out (by kernel_rfl)) ?_
                        try go_wp2
                        go_roundg kj8
                        case measure => have := HK1.out; have := HJ8.out; omega
                        case rel => exact ⟨(y169), ((wrap64 (x5_1 + 1))), (by first | rfl | (simp; done) | (simp [nil_ne_, nil_eq_]; done) | (simp [*]; done)), (by first | exact H' | (rw [hji90]; exact H') | (simp only [hji90]; exact H') | (simp only [hji90] at H' ⊢; exact H')), ⟨by have := HK1.out; have := HJ8.out; omega⟩, ⟨by (with_reducible repeat (first | apply Kd.R_alloc | apply Kd.R_drewN | apply Kd.R_drew)); exact Kd.R_mono HO171.out (fun _ hk => hk.1)⟩, ⟨by repeat (first | (with_reducible first | exact HK.out | apply Kept.alloc | apply Kept.drewN | apply Kept.drew) | exact HK.out)⟩, ⟨by repeat (first | (with_reducible first | exact HB.out | apply below_alloc | apply pw_below_drewN | apply below_drew1) | exact HB.out)⟩⟩
                       ·
                        rw [if_neg c97] at H
                        exact absurd H (by simp)
                      ·
                       rw [if_neg c95] at H
                       exact absurd H (by simp)
                     ·
                      rw [if_neg c94] at H
                      exact absurd H (by simp)
                    ·
                     rw [if_neg c92] at H
                     exact absurd H (by simp)
                   ·
                    rw [if_neg c91] at H
                    exact absurd H (by simp)
                  ·
                   rw [if_neg c89] at H
                   have c89b0 : ((bt a1 x5_1) == 38) = false := beq_eq_false_iff_ne.mpr c89
                   have c89b1 : ((bt a1 x5_1) != 38) = true := bne_iff_ne.mpr c89
                   by_cases c103 : x0_1.length < 140737488355328
                   ·
                    rw [if_pos c103] at H
                    have LMc103 := Aside0.mk c103
                    clear c103
                    obtain ⟨y172, hy172⟩ : ∃ y_ : List Int, y_ = (x0_1 ++ [(bt a1 x5_1)]) := ⟨_, rfl⟩
                    replace H : (sjson_zzMarshal.l0 kj8 y172 a1 (wrap64 (x5_1 + 1))) = some r := by first | (rw [hy172]; with_reducible exact H) | (have H2_ := (Option.bind_some _ _).symm.trans H; rw [hy172]; with_reducible exact H2_) | (have H2_ := (Option.bind_some _ _).symm.trans H; with_reducible exact H2_) | with_reducible exact H | (rw [hy172]; exact H) | exact H
                    have Ny172 := Aside0.mk hy172
                    clear hy172
                    have H' := Aside0.mk H
                    clear H
                    go_wp2_with (first | ((with_reducible refine gate_builtin (b := .append) (xs := #[.tmp 23, .tmp 25]) rfl ?_); at_builtin; refine Kd.R_append (Kd.int .u8) (w0 := w0) w0.heap.size rfl (.tmp 23) (.tmp 25) 39 5 (.int .u8 0) 1 rfl Tryd.underlying39 info5 rfl (by decide) (by omega) u0 x0_1 (bt a1 x5_1) [.int .u8 (bt a1 x5_1)] (fun k_ => (P0_ k_ ∨ w.heap.size ≤ k_)) (fun _ => False) rfl rfl ?aP (fun _ hk => hk.elim) ?aF ?aO ?aB ?aS ?aL ?_; (case aP => exact rfl); (case aB => exact (by repeat (first | (with_reducible first | exact HB.out | apply below_alloc | apply pw_below_drewN | apply below_drew1) | exact HB.out))); (case aF => exact (fun k_ hk => (.inr (Nat.le_trans (by first | exact HK.out.1 | exact (show Kept w _ (fun k_ => P0_ k_) from by repeat (first | (with_reducible first | exact HK.out | apply Kept.alloc | apply Kept.drewN | apply Kept.drew) | exact HK.out)).1) hk)))); (case aO => exact (by (with_reducible repeat (first | apply Kd.R_alloc | apply Kd.R_drewN | apply Kd.R_drew)); exact HO_0.out)); (case aS => exact (below_size (by repeat (first | (with_reducible first | exact HB.out | apply below_alloc | apply pw_below_drewN | apply below_drew1) | exact HB.out)))); (case aL => have := LMc103.out; omega); intro v173 w104 ho hb hg hat; rw [← Ny172.out] at ho; have n0_ := Aside0.mk (hb); have n1_ := Aside0.mk (Kept.of_grown (S := (fun k_ => P0_ k_)) hg (by repeat (first | (with_reducible first | exact HK.out | apply Kept.alloc | apply Kept.drewN | apply Kept.drew) | exact HK.out)) (fun k_ e_ => (HO_0.out.1 k_ e_))); have n2_ := Aside0.mk (ho); clear HB; clear HK; clear HO_0; have HB := n0_; have HK := n1_; have HO174 := n2_; clear n0_ n1_ n2_; clear ho hb hg hat))
                    go_roundg kj8
                    case measure => have := HK1.out; have := HJ8.out; omega
                    case rel => exact ⟨(y172), ((wrap64 (x5_1 + 1))), (by first | rfl | (simp; done) | (simp [nil_ne_, nil_eq_]; done) | (simp [*]; done)), H', ⟨by have := HK1.out; have := HJ8.out; omega⟩, ⟨by (with_reducible repeat (first | apply Kd.R_alloc | apply Kd.R_drewN | apply Kd.R_drew)); exact HO174.out⟩, ⟨by repeat (first | (with_reducible first | exact HK.out | apply Kept.alloc | apply Kept.drewN | apply Kept.drew) | exact HK.out)⟩, ⟨by repeat (first | (with_reducible first | exact HB.out | apply below_alloc | apply pw_below_drewN | apply below_drew1) | exact HB.out)⟩⟩
                   ·
                    rw [if_neg c103] at H
                    exact absurd H (by simp)
      ·
       rw [if_neg c8] at H
       have c8b0 : decide ((bt a1 x5_1) < 128) = false := decide_eq_false c8
       clear c8
       have c105b0 := eq_true (of_decide_eq_true (by first | (with_reducible assumption) | assumption) : 0 ≤ x5_1)
       by_cases c106 : x5_1 ≤ (a1.size : Int)
       ·
        rw [if_pos c106] at H
        have c106b0 := eq_true c106
        have c106b1 : decide (x5_1 ≤ (a1.size : Int)) = true := decide_eq_true c106
        clear c106
        obtain ⟨js107, hjs107⟩ : ∃ j_ : ByteArray, (a1.extract (x5_1 : Int).toNat a1.size) = j_ := ⟨_, rfl⟩
        skip
        replace H : ((utf8_DecodeRuneInString.f js107).bind fun bt175 => (if bt175.1 = 65533 then (sjson_zzMarshal.j2 k1 x0_1 a1 x5_1 bt175.1 bt175.2 (bt175.2 == 1)) else (sjson_zzMarshal.j2 k1 x0_1 a1 x5_1 bt175.1 bt175.2 false))) = some r := by first | (rw [hjs107] at H; exact H) | (simp only [hjs107] at H ⊢; exact H)
        replace H := Option.bind_eq_some_iff.mp H
        obtain ⟨⟨t175, t176⟩, A1080, H⟩ := H
        replace H : (if t175 = 65533 then (sjson_zzMarshal.j2 k1 x0_1 a1 x5_1 t175 t176 (t176 == 1)) else (sjson_zzMarshal.j2 k1 x0_1 a1 x5_1 t175 t176 false)) = some r := H
        have A108 := Aside0.mk A1080
        clear A1080
        have HC109 := Aside0.mk H
        clear H
        have p7 : 0 ≤ (x5_1 : Int) := of_decide_eq_true (by first | (with_reducible assumption) | assumption)
        have q7 : x5_1 < (a1.size : Int) := of_decide_eq_true (by first | (with_reducible assumption) | assumption)
        have hx7 := bt_at a1 x5_1
        replace p7 := eq_true p7
        replace q7 := eq_true q7
        go_upto_region 24 with (first | ((with_reducible refine gate_callee (f := 48) rfl ?_); refine goesL_ (some 96) rfl rfl Tryd.func48 (by kernel_rfl) rfl #[.string js107] rfl (by (try simp only [List.map_toArray, List.map_cons, List.map_nil]); first | done | rfl | (simp only [List.length_drop, List.length_take]; rfl)) ?_; (with_reducible refine (utf8_DecodeRuneInString.calls js107 t175 t176 _ A108.out (HG.out.below (by repeat (first | (with_reducible first | exact HB.out | apply below_alloc | apply pw_below_drewN | apply below_drew1) | exact HB.out)))).mono ?_); rintro e w110 ⟨rfl, hb⟩; refine ⟨_, rfl, ?_⟩; have n0_ := Aside0.mk (Kd.R_below (by (with_reducible repeat (first | apply Kd.R_alloc | apply Kd.R_drewN | apply Kd.R_drew)); exact HO_0.out) hb); have n1_ := Aside0.mk (Kept.below (S := (fun k_ => P0_ k_)) (by repeat (first | (with_reducible first | exact HK.out | apply Kept.alloc | apply Kept.drewN | apply Kept.drew) | exact HK.out)) hb); have n2_ := Aside0.mk (below_step (by repeat (first | (with_reducible first | exact HB.out | apply below_alloc | apply pw_below_drewN | apply below_drew1) | exact HB.out)) hb); clear HO_0; clear HK; clear HB; have HO_0 := n0_; have HK := n1_; have HB := n2_; clear n0_ n1_ n2_; (try clear hb); (try clear hb2); (try clear hk); (try clear hi)))
        (try simp only [Act.put, List.setIfInBounds_toArray, List.set_cons_zero, List.set_cons_succ])
        go_cut [107] (fun v107 wc => ∃ (kq : Nat) (x107_108 : Bool), v107 = .bool x107_108 ∧ Aside0 (sjson_zzMarshal.j2 kq x0_1 a1 x5_1 t175 t176 x107_108 = some r) ∧ Aside0 (kq ≤ k1) ∧ Aside0 (Kd.R (Kd.int .u8) 5 wc w0.heap.size (fun k_ => (P0_ k_ ∨ w.heap.size ≤ k_)) u0 x0_1) ∧ Aside0 (Kept w wc (fun k_ => P0_ k_)) ∧ Aside0 (Below w0.heap.size w0 wc))
        case first =>
         have H := HC109.out
         clear HC109
         by_cases c111 : t175 = 65533
         ·
          rw [if_pos c111] at H
          have c111b0 : (t175 == 65533) = true := beq_iff_eq.mpr c111
          have c111b1 : (t175 != 65533) = false := bne_eq_false_iff_eq.mpr c111
          clear c111
          (first | rw [c111b0] | (simp only [i64_w, i32_w]; rw [c111b0]) | skip)
          have H' := Aside0.mk H
          clear H
          go_wp2
          go_meet
          case rel => exact ⟨_, ((t176 == 1)), (by first | rfl | (simp; done) | (simp [nil_ne_, nil_eq_]; done) | (simp [*]; done)), (by first | exact H' | (rw [hjs107]; exact H') | (simp only [hjs107]; exact H') | (simp only [hjs107] at H' ⊢; exact H')), ⟨by have := HK1.out; first | omega | exact Nat.le_refl _⟩, ⟨by (with_reducible repeat (first | apply Kd.R_alloc | apply Kd.R_drewN | apply Kd.R_drew)); exact HO_0.out⟩, ⟨by repeat (first | (with_reducible first | exact HK.out | apply Kept.alloc | apply Kept.drewN | apply Kept.drew) | exact HK.out)⟩, ⟨by repeat (first | (with_reducible first | exact HB.out | apply below_alloc | apply pw_below_drewN | apply below_drew1) | exact HB.out)⟩⟩
         ·
          rw [if_neg c111] at H
          have c111b0 : (t175 == 65533) = false := beq_eq_false_iff_ne.mpr c111
          have c111b1 : (t175 != 65533) = true := bne_iff_ne.mpr c111
          (first | rw [c111b0] | (simp only [i64_w, i32_w]; rw [c111b0]) | skip)
          have H' := Aside0.mk H
          clear H
          go_wp2
          go_meet
          case rel => exact ⟨_, (false), (by first | rfl | (simp; done) | (simp [nil_ne_, nil_eq_]; done) | (simp [*]; done)), (by first | exact H' | (rw [hjs107]; exact H') | (simp only [hjs107]; exact H') | (simp only [hjs107] at H' ⊢; exact H')), ⟨by have := HK1.out; first | omega | exact Nat.le_refl _⟩, ⟨by (with_reducible repeat (first | apply Kd.R_alloc | apply Kd.R_drewN | apply Kd.R_drew)); exact HO_0.out⟩, ⟨by repeat (first | (with_reducible first | exact HK.out | apply Kept.alloc | apply Kept.drewN | apply Kept.drew) | exact HK.out)⟩, ⟨by repeat (first | (with_reducible first | exact HB.out | apply below_alloc | apply pw_below_drewN | apply below_drew1) | exact HB.out)⟩⟩
        case rest =>
         clear HC109
         try clear c1
         try clear p2
         try clear c4
         try clear c6
         try clear p6
         try clear c7
         try clear p7
         try clear q7
         try clear hx7
         try clear c8
         try clear c8b0
         try clear p8
         try clear q8
         try clear hx8
         try clear c9
         try clear p9
         try clear q9
         try clear hx9
         try clear c10
         try clear c11
         try clear c48
         try clear c61
         try clear c61b0
         try clear c61b1
         try clear c63
         try clear c64
         try clear p64
         try clear c66
         try clear c67
         try clear c69
         try clear c75
         try clear c75b0
         try clear c75b1
         try clear c77
         try clear c77b0
         try clear c78
         try clear c78b0
         try clear p79
         try clear q79
         try clear hx79
         try clear c80
         try clear c80b0
         try clear c81
         try clear c81b0
         try clear p82
         try clear q82
         try clear hx82
         try clear c83
         try clear c89
         try clear c89b0
         try clear c89b1
         try clear c91
         try clear c91b0
         try clear c92
         try clear c92b0
         try clear p93
         try clear q93
         try clear hx93
         try clear c94
         try clear c94b0
         try clear c95
         try clear c95b0
         try clear p96
         try clear q96
         try clear hx96
         try clear c97
         try clear c103
         try clear c105
         try clear c105b0
         try clear c106
         try clear c106b0
         try clear c106b1
         try clear c111
         try clear c111b0
         try clear c111b1
         try clear p7
         try clear p79
         try clear p82
         try clear p93
         try clear p96
         try clear q7
         try clear q79
         try clear q82
         try clear q93
         try clear q96
         obtain ⟨kq, x107_108, rfl, HA, HJ108, HO_0, HK, HB⟩ := hcut
         cases kq with
         | zero => exact absurd HA.out (by simp [sjson_zzMarshal.j2])
         | succ kj108 =>
          have H := HA.out
          clear HA
          simp only [sjson_zzMarshal.j2] at H
          by_cases c112 : x107_108 = true
          ·
           subst c112
           have H1 : (if x0_1.length + 6 < 140737488355328 then (sjson_zzMarshal.l0 kj108 (x0_1 ++ bytesOf (⟨#[92, 117, 102, 102, 102, 100]⟩ : ByteArray)) a1 (wrap64 (x5_1 + t176))) else (none)) = some r := by rw [if_pos rfl] at H; exact H
           clear H
           have H := H1
           clear H1
           by_cases c113 : x0_1.length + 6 < 140737488355328
           ·
            rw [if_pos c113] at H
            have LMc113 := Aside0.mk c113
            clear c113
            obtain ⟨y177, hy177⟩ : ∃ y_ : List Int, y_ = (x0_1 ++ bytesOf (⟨#[92, 117, 102, 102, 102, 100]⟩ : ByteArray)) := ⟨_, rfl⟩
            replace H : (sjson_zzMarshal.l0 kj108 y177 a1 (wrap64 (x5_1 + t176))) = some r := by first | (rw [hy177]; with_reducible exact H) | (have H2_ := (Option.bind_some _ _).symm.trans H; rw [hy177]; with_reducible exact H2_) | (have H2_ := (Option.bind_some _ _).symm.trans H; with_reducible exact H2_) | with_reducible exact H | (rw [hy177]; exact H) | exact H
            have Ny177 := Aside0.mk hy177
            clear hy177
            have H' := Aside0.mk H
            clear H
            go_wp2_with (first | (at_builtin; refine print_append_str_R (w0 := w0) w0.heap.size rfl (.tmp 114) _ 39 9 5 rfl Tryd.underlying39 Tryd.underlying9 info5 u0 x0_1 (⟨#[92, 117, 102, 102, 102, 100]⟩ : ByteArray) (fun k_ => (P0_ k_ ∨ w.heap.size ≤ k_)) rfl rfl ?aF ?aO ?aB ?aS ?aL ?_; (case aB => exact (by repeat (first | (with_reducible first | exact HB.out | apply below_alloc | apply pw_below_drewN | apply below_drew1) | exact HB.out))); (case aF => exact (fun k_ hk => (.inr (Nat.le_trans (by first | exact HK.out.1 | exact (show Kept w _ (fun k_ => P0_ k_) from by repeat (first | (with_reducible first | exact HK.out | apply Kept.alloc | apply Kept.drewN | apply Kept.drew) | exact HK.out)).1) hk)))); (case aO => exact (by (with_reducible repeat (first | apply Kd.R_alloc | apply Kd.R_drewN | apply Kd.R_drew)); exact HO_0.out)); (case aS => exact (below_size (by repeat (first | (with_reducible first | exact HB.out | apply below_alloc | apply pw_below_drewN | apply below_drew1) | exact HB.out)))); (case aL => have := LMc113.out; (first | omega | (simp only [sz_mk, List.size_toArray, List.length_cons, List.length_nil]; omega))); intro v178 w114 ho hb hg hat; rw [← Ny177.out] at ho; change Kd.R (Kd.int .u8) 5 w114 w0.heap.size (fun k_ => (P0_ k_ ∨ w.heap.size ≤ k_)) v178 y177 at ho; have n0_ := Aside0.mk (hb); have n1_ := Aside0.mk (Kept.of_grown (S := (fun k_ => P0_ k_)) hg (by repeat (first | (with_reducible first | exact HK.out | apply Kept.alloc | apply Kept.drewN | apply Kept.drew) | exact HK.out)) (fun k_ e_ => (HO_0.out.1 k_ e_))); have n2_ := Aside0.mk (ho); clear HB; clear HK; clear HO_0; have HB := n0_; have HK := n1_; have HO179 := n2_; clear n0_ n1_ n2_; clear ho hb hg hat))
            go_roundg kj108
            case measure => have := HK1.out; have := HJ108.out; omega
            case rel => exact ⟨(y177), (wrap64 (x5_1 + t176)), (by first | rfl | (simp; done) | (simp [nil_ne_, nil_eq_]; done) | (simp [*]; done)), (by first | exact H' | (rw [hjs107]; exact H') | (simp only [hjs107]; exact H') | (simp only [hjs107] at H' ⊢; exact H')), ⟨by have := HK1.out; have := HJ108.out; omega⟩, ⟨by (with_reducible repeat (first | apply Kd.R_alloc | apply Kd.R_drewN | apply Kd.R_drew)); exact HO179.out⟩, ⟨by repeat (first | (with_reducible first | exact HK.out | apply Kept.alloc | apply Kept.drewN | apply Kept.drew) | exact HK.out)⟩, ⟨by repeat (first | (with_reducible first | exact HB.out | apply below_alloc | apply pw_below_drewN | apply below_drew1) | exact HB.out)⟩⟩
           ·
            rw [if_neg c113] at H
            exact absurd H (by simp)
          ·
           replace c112 := Bool.eq_false_iff.mpr c112
           subst c112
           have H1 : (if t175 = 8232 then (if 0 ≤ (Go.bits .and .i32 t175 15) then (if (Go.bits .and .i32 t175 15) < 16 then ((some (([92, 117, 50, 48, 50, bt (⟨#[48, 49, 50, 51, 52, 53, 54, 55, 56, 57, 97, 98, 99, 100, 101, 102]⟩ : ByteArray) (Go.bits .and .i32 t175 15)] : List Int) : List Int)).bind fun y180 => (if x0_1.length + y180.length < 140737488355328 then (sjson_zzMarshal.l0 kj108 (x0_1 ++ y180) a1 (wrap64 (x5_1 + t176))) else (none))) else (none)) else (none)) else (if t175 = 8233 then (if 0 ≤ (Go.bits .and .i32 t175 15) then (if (Go.bits .and .i32 t175 15) < 16 then ((some (([92, 117, 50, 48, 50, bt (⟨#[48, 49, 50, 51, 52, 53, 54, 55, 56, 57, 97, 98, 99, 100, 101, 102]⟩ : ByteArray) (Go.bits .and .i32 t175 15)] : List Int) : List Int)).bind fun y186 => (if x0_1.length + y186.length < 140737488355328 then (sjson_zzMarshal.l0 kj108 (x0_1 ++ y186) a1 (wrap64 (x5_1 + t176))) else (none))) else (none)) else (none)) else (if 0 ≤ x5_1 then (if x5_1 ≤ (wrap64 (x5_1 + t176)) then (if (wrap64 (x5_1 + t176)) ≤ (a1.size : Int) then (if x0_1.length + (a1.extract (x5_1 : Int).toNat ((wrap64 (x5_1 + t176)) : Int).toNat).size < 140737488355328 then (sjson_zzMarshal.l0 kj108 (x0_1 ++ bytesOf (a1.extract (x5_1 : Int).toNat ((wrap64 (x5_1 + t176)) : Int).toNat)) a1 (wrap64 (x5_1 + t176))) else (none)) else (none)) else (none)) else (none)))) = some r := by rw [if_neg (show ¬ (false = true) by decide)] at H; exact H
           clear H
           have H := H1
           clear H1
           by_cases c115 : t175 = 8232
           ·
            rw [if_pos c115] at H
            have c115b0 : (t175 == 8232) = true := beq_iff_eq.mpr c115
            have c115b1 : (t175 != 8232) = false := bne_eq_false_iff_eq.mpr c115
            clear c115
            by_cases c116 : 0 ≤ (Go.bits .and .i32 t175 15)
            ·
             rw [if_pos c116] at H
             have c116b0 : decide (0 ≤ (Go.bits .and .i32 t175 15)) = true := decide_eq_true c116
             clear c116
             by_cases c117 : (Go.bits .and .i32 t175 15) < 16
             ·
              rw [if_pos c117] at H
              have c117b0 : decide ((Go.bits .and .i32 t175 15) < 16) = true := decide_eq_true c117
              clear c117
              obtain ⟨y180, hy180⟩ : ∃ y_ : List Int, y_ = (([92, 117, 50, 48, 50, bt (⟨#[48, 49, 50, 51, 52, 53, 54, 55, 56, 57, 97, 98, 99, 100, 101, 102]⟩ : ByteArray) (Go.bits .and .i32 t175 15)] : List Int)) := ⟨_, rfl⟩
              replace H : (if x0_1.length + y180.length < 140737488355328 then (sjson_zzMarshal.l0 kj108 (x0_1 ++ y180) a1 (wrap64 (x5_1 + t176))) else (none)) = some r := by first | (rw [hy180]; with_reducible exact H) | (have H2_ := (Option.bind_some _ _).symm.trans H; rw [hy180]; with_reducible exact H2_) | (have H2_ := (Option.bind_some _ _).symm.trans H; with_reducible exact H2_) | with_reducible exact H | (rw [hy180]; exact H) | exact H
              have Ny180 := Aside0.mk hy180
              clear hy180
              by_cases c119 : x0_1.length + y180.length < 140737488355328
              ·
               rw [if_pos c119] at H
               have LMc119 := Aside0.mk c119
               clear c119
               obtain ⟨y183, hy183⟩ : ∃ y_ : List Int, y_ = (x0_1 ++ y180) := ⟨_, rfl⟩
               replace H : (sjson_zzMarshal.l0 kj108 y183 a1 (wrap64 (x5_1 + t176))) = some r := by first | (rw [hy183]; with_reducible exact H) | (have H2_ := (Option.bind_some _ _).symm.trans H; rw [hy183]; with_reducible exact H2_) | (have H2_ := (Option.bind_some _ _).symm.trans H; with_reducible exact H2_) | with_reducible exact H | (rw [hy183]; exact H) | exact H
               have Ny183 := Aside0.mk hy183
               clear hy183
               have H' := Aside0.mk H
               clear H
               have p118 : 0 ≤ ((Go.bits .and .i32 t175 15) : Int) := of_decide_eq_true (by first | (with_reducible assumption) | assumption)
               have q118 : (Go.bits .and .i32 t175 15) < (16 : Int) := of_decide_eq_true (by first | (with_reducible assumption) | assumption)
               have hx118 := bt_at (⟨#[48, 49, 50, 51, 52, 53, 54, 55, 56, 57, 97, 98, 99, 100, 101, 102]⟩ : ByteArray) (Go.bits .and .i32 t175 15)
               replace p118 := eq_true p118
               replace q118 := eq_true q118
               go_wp2_with (first | ((with_reducible refine gate_dst (N := 127) rfl ?_); refine Kd.R_lit (Kd.int .u8) _ 5 ?hg (N := 127) ?hd (xs := ([92, 117, 50, 48, 50, bt (⟨#[48, 49, 50, 51, 52, 53, 54, 55, 56, 57, 97, 98, 99, 100, 101, 102]⟩ : ByteArray) (Go.bits .and .i32 t175 15)] : List Int)) (inner := [.int .u8 92, .int .u8 117, .int .u8 50, .int .u8 48, .int .u8 50, .int .u8 (bt (⟨#[48, 49, 50, 51, 52, 53, 54, 55, 56, 57, 97, 98, 99, 100, 101, 102]⟩ : ByteArray) (Go.bits .and .i32 t175 15))]) (ok := fun _ => True) (okp := fun _ => True) ?hr ?hp (fun _ hk => hk) trivial (Below.refl _ _) (Nat.le_refl _) (by simp) ?_; (case hd => rfl); (case hg => rfl); (case hr => first | (go_simp; done) | (go_simp; rfl)); (case hp => exact (Reps.one (show Kd.M (Kd.int .u8) _ _ _ 92 [.int .u8 92] from rfl) (Reps.one (show Kd.M (Kd.int .u8) _ _ _ 117 [.int .u8 117] from rfl) (Reps.one (show Kd.M (Kd.int .u8) _ _ _ 50 [.int .u8 50] from rfl) (Reps.one (show Kd.M (Kd.int .u8) _ _ _ 48 [.int .u8 48] from rfl) (Reps.one (show Kd.M (Kd.int .u8) _ _ _ 50 [.int .u8 50] from rfl) (Reps.one (show Kd.M (Kd.int .u8) _ _ _ (bt (⟨#[48, 49, 50, 51, 52, 53, 54, 55, 56, 57, 97, 98, 99, 100, 101, 102]⟩ : ByteArray) (Go.bits .and .i32 t175 15)) [.int .u8 (bt (⟨#[48, 49, 50, 51, 52, 53, 54, 55, 56, 57, 97, 98, 99, 100, 101, 102]⟩ : ByteArray) (Go.bits .and .i32 t175 15))] from rfl) (Reps.none _ _)))))))); intro v181 w120 ho121 hb hg_ hnew_; clear hg_ hnew_; (first | rw [← Ny180.out] at ho121 | (simp only [Int.reduceToNat] at ho121; rw [← Ny180.out] at ho121)); have n0_ := Aside0.mk (Kd.R_elder' (by (with_reducible repeat (first | apply Kd.R_alloc | apply Kd.R_drewN | apply Kd.R_drew)); exact HO_0.out) (Kd.R_base ho121) hb); have n1_ := Aside0.mk (Kd.R_lower (Kd.R_new' (Kd.R_newM (M := fun k_ => (P0_ k_ ∨ w.heap.size ≤ k_)) ho121 (by first | exact HK.out.1 | exact (show Kept w _ (fun k_ => P0_ k_) from by repeat (first | (with_reducible first | exact HK.out | apply Kept.alloc | apply Kept.drewN | apply Kept.drew) | exact HK.out)).1) (fun k_ h_ => .inr h_)) (Kd.R_lt (by (with_reducible repeat (first | apply Kd.R_alloc | apply Kd.R_drewN | apply Kd.R_drew)); exact HO_0.out))) (below_size (by repeat (first | (with_reducible first | exact HB.out | apply below_alloc | apply pw_below_drewN | apply below_drew1) | exact HB.out)))); have n2_ := Aside0.mk (Kept.below (S := (fun k_ => P0_ k_)) (by repeat (first | (with_reducible first | exact HK.out | apply Kept.alloc | apply Kept.drewN | apply Kept.drew) | exact HK.out)) hb); have n3_ := Aside0.mk (below_step (by repeat (first | (with_reducible first | exact HB.out | apply below_alloc | apply pw_below_drewN | apply below_drew1) | exact HB.out)) hb); clear HO_0; clear HK; clear HB; have HO_0 := n0_; have HO182 := n1_; have HK := n2_; have HB := n3_; clear n0_ n1_ n2_ n3_; clear hb ho121; obtain ⟨Ao123, co123, eo123⟩ := Kd.R_slice HO182.out; subst eo123) | ((with_reducible refine gate_builtin (b := .append) (xs := #[.tmp 123, .tmp 127]) rfl ?_); at_builtin; refine Kd.R_append_rows (Kd.int .u8) (w0 := w0) w0.heap.size rfl (.tmp 123) (.tmp 127) 39 5 (.int .u8 0) 1 rfl Tryd.underlying39 info5 rfl (by decide) (by omega) u0 x0_1 y180 _ _ _ (fun k_ => (P0_ k_ ∨ w.heap.size ≤ k_) ∧ some k_ ≠ (.slice Ao123 y180.length co123 : Value).ownBlock) (fun _ => False) rfl rfl ?aO ?aR (fun _ _ h => h) (fun _ h => h.elim) ?aF ?aB ?aS ?aL ?_; (case aR => repeat (first | exact (Kd.R_reads' HO182.out).2.2 | (with_reducible refine Kd.C_alloc ?_ _) | (with_reducible refine Kd.C_drewN ?_ _) | (with_reducible refine Kd.C_drew ?_))); (case aB => exact (by repeat (first | (with_reducible first | exact HB.out | apply below_alloc | apply pw_below_drewN | apply below_drew1) | exact HB.out))); (case aF => exact (fun k_ hk => ⟨(.inr (Nat.le_trans (by first | exact HK.out.1 | exact (show Kept w _ (fun k_ => P0_ k_) from by repeat (first | (with_reducible first | exact HK.out | apply Kept.alloc | apply Kept.drewN | apply Kept.drew) | exact HK.out)).1) hk)), Kd.fresh' (Kd.R_lt (by (with_reducible repeat (first | apply Kd.R_alloc | apply Kd.R_drewN | apply Kd.R_drew)); exact HO182.out)) k_ hk⟩)); (case aO => exact (by (with_reducible repeat (first | apply Kd.R_alloc | apply Kd.R_drewN | apply Kd.R_drew)); exact HO_0.out)); (case aS => exact (below_size (by repeat (first | (with_reducible first | exact HB.out | apply below_alloc | apply pw_below_drewN | apply below_drew1) | exact HB.out)))); (case aL => have := LMc119.out; omega); intro v184 w122 ho hb hg hat; rw [← Ny183.out] at ho; have n0_ := Aside0.mk (Kd.R_after (ok := (fun k_ => (P0_ k_ ∨ w.heap.size ≤ k_))) (by (with_reducible repeat (first | apply Kd.R_alloc | apply Kd.R_drewN | apply Kd.R_drew)); exact Kd.R_mono HO182.out (fun _ hk => ⟨hk.1.1, hk.2⟩)) hg hat); have n1_ := Aside0.mk (hb); have n2_ := Aside0.mk (Kept.of_grown (S := (fun k_ => P0_ k_)) hg (by repeat (first | (with_reducible first | exact HK.out | apply Kept.alloc | apply Kept.drewN | apply Kept.drew) | exact HK.out)) (fun k_ e_ => (HO_0.out.1 k_ e_).1)); have n3_ := Aside0.mk (ho); clear HO182; clear HB; clear HK; clear HO_0; have HO182 := n0_; have HB := n1_; have HK := n2_; have HO185 := n3_; clear n0_ n1_ n2_ n3_; clear ho hb hg hat))
               go_roundg kj108
               case measure => have := HK1.out; have := HJ108.out; omega
               case rel => exact ⟨(y183), (wrap64 (x5_1 + t176)), (by first | rfl | (simp; done) | (simp [nil_ne_, nil_eq_]; done) | (simp [*]; done)), (by first | exact H' | (rw [hjs107]; exact H') | (simp only [hjs107]; exact H') | (simp only [hjs107] at H' ⊢; exact H')), ⟨by have := HK1.out; have := HJ108.out; omega⟩, ⟨by (with_reducible repeat (first | apply Kd.R_alloc | apply Kd.R_drewN | apply Kd.R_drew)); exact Kd.R_mono HO185.out (fun _ hk => hk.1)⟩, ⟨by repeat (first | (with_reducible first | exact HK.out | apply Kept.alloc | apply Kept.drewN | apply Kept.drew) | exact HK.out)⟩, ⟨by repeat (first | (with_reducible first | exact HB.out | apply below_alloc | apply pw_below_drewN | apply below_drew1) | exact HB.out)⟩⟩
              ·
               rw [if_neg c119] at H
               exact absurd H (by simp)
             ·
              rw [if_neg c117] at H
              exact absurd H (by simp)
            ·
             rw [if_neg c116] at H
             exact absurd H (by simp)
           ·
            rw [if_neg c115] at H
            have c115b0 : (t175 == 8232) = false := beq_eq_false_iff_ne.mpr c115
            have c115b1 : (t175 != 8232) = true := bne_iff_ne.mpr c115
            by_cases c124 : t175 = 8233
            ·
             rw [if_pos c124] at H
             have c124b0 : (t175 == 8233) = true := beq_iff_eq.mpr c124
             have c124b1 : (t175 != 8233) = false := bne_eq_false_iff_eq.mpr c124
             clear c124
             by_cases c125 : 0 ≤ (Go.bits .and .i32 t175 15)
             ·
              rw [if_pos c125] at H
              have c125b0 : decide (0 ≤ (Go.bits .and .i32 t175 15)) = true := decide_eq_true c125
              clear c125
              by_cases c126 : (Go.bits .and .i32 t175 15) < 16
              ·
               rw [if_pos c126] at H
               have c126b0 : decide ((Go.bits .and .i32 t175 15) < 16) = true := decide_eq_true c126
               clear c126
               obtain ⟨y186, hy186⟩ : ∃ y_ : List Int, y_ = (([92, 117, 50, 48, 50, bt (⟨#[48, 49, 50, 51, 52, 53, 54, 55, 56, 57, 97, 98, 99, 100, 101, 102]⟩ : ByteArray) (Go.bits .and .i32 t175 15)] : List Int)) := ⟨_, rfl⟩
               replace H : (if x0_1.length + y186.length < 140737488355328 then (sjson_zzMarshal.l0 kj108 (x0_1 ++ y186) a1 (wrap64 (x5_1 + t176))) else (none)) = some r := by first | (rw [hy186]; with_reducible exact H) | (have H2_ := (Option.bind_some _ _).symm.trans H; rw [hy186]; with_reducible exact H2_) | (have H2_ := (Option.bind_some _ _).symm.trans H; with_reducible exact H2_) | with_reducible exact H | (rw [hy186]; exact H) | exact H
               have Ny186 := Aside0.mk hy186
               clear hy186
               by_cases c128 : x0_1.length + y186.length < 140737488355328
               ·
                rw [if_pos c128] at H
                have LMc128 := Aside0.mk c128
                clear c128
                obtain ⟨y189, hy189⟩ : ∃ y_ : List Int, y_ = (x0_1 ++ y186) := ⟨_, rfl⟩
                replace H : (sjson_zzMarshal.l0 kj108 y189 a1 (wrap64 (x5_1 + t176))) = some r := by first | (rw [hy189]; with_reducible exact H) | (have H2_ := (Option.bind_some _ _).symm.trans H; rw [hy189]; with_reducible exact H2_) | (have H2_ := (Option.bind_some _ _).symm.trans H; with_reducible exact H2_) | with_reducible exact H | (rw [hy189]; exact H) | exact H
                have Ny189 := Aside0.mk hy189
                clear hy189
                have H' := Aside0.mk H
                clear H
                have p127 : 0 ≤ ((Go.bits .and .i32 t175 15) : Int) := of_decide_eq_true (by first | (with_reducible assumption) | assumption)
                have q127 : (Go.bits .and .i32 t175 15) < (16 : Int) := of_decide_eq_true (by first | (with_reducible assumption) | assumption)
                have hx127 := bt_at (⟨#[48, 49, 50, 51, 52, 53, 54, 55, 56, 57, 97, 98, 99, 100, 101, 102]⟩ : ByteArray) (Go.bits .and .i32 t175 15)
                replace p127 := eq_true p127
                replace q127 := eq_true q127
                go_wp2_with (first | ((with_reducible refine gate_dst (N := 127) rfl ?_); refine Kd.R_lit (Kd.int .u8) _ 5 ?hg (N := 127) ?hd (xs := ([92, 117, 50, 48, 50, bt (⟨#[48, 49, 50, 51, 52, 53, 54, 55, 56, 57, 97, 98, 99, 100, 101, 102]⟩ : ByteArray) (Go.bits .and .i32 t175 15)] : List Int)) (inner := [.int .u8 92, .int .u8 117, .int .u8 50, .int .u8 48, .int .u8 50, .int .u8 (bt (⟨#[48, 49, 50, 51, 52, 53, 54, 55, 56, 57, 97, 98, 99, 100, 101, 102]⟩ : ByteArray) (Go.bits .and .i32 t175 15))]) (ok := fun _ => True) (okp := fun _ => True) ?hr ?hp (fun _ hk => hk) trivial (Below.refl _ _) (Nat.le_refl _) (by simp) ?_; (case hd => rfl); (case hg => rfl); (case hr => first | (go_simp; done) | (go_simp; rfl)); (case hp => exact (Reps.one (show Kd.M (Kd.int .u8) _ _ _ 92 [.int .u8 92] from rfl) (Reps.one (show Kd.M (Kd.int .u8) _ _ _ 117 [.int .u8 117] from rfl) (Reps.one (show Kd.M (Kd.int .u8) _ _ _ 50 [.int .u8 50] from rfl) (Reps.one (show Kd.M (Kd.int .u8) _ _ _ 48 [.int .u8 48] from rfl) (Reps.one (show Kd.M (Kd.int .u8) _ _ _ 50 [.int .u8 50] from rfl) (Reps.one (show Kd.M (Kd.int .u8) _ _ _ (bt (⟨#[48, 49, 50, 51, 52, 53, 54, 55, 56, 57, 97, 98, 99, 100, 101, 102]⟩ : ByteArray) (Go.bits .and .i32 t175 15)) [.int .u8 (bt (⟨#[48, 49, 50, 51, 52, 53, 54, 55, 56, 57, 97, 98, 99, 100, 101, 102]⟩ : ByteArray) (Go.bits .and .i32 t175 15))] from rfl) (Reps.none _ _)))))))); intro v187 w129 ho130 hb hg_ hnew_; clear hg_ hnew_; (first | rw [← Ny186.out] at ho130 | (simp only [Int.reduceToNat] at ho130; rw [← Ny186.out] at ho130)); have n0_ := Aside0.mk (Kd.R_elder' (by (with_reducible repeat (first | apply Kd.R_alloc | apply Kd.R_drewN | apply Kd.R_drew)); exact HO_0.out) (Kd.R_base ho130) hb); have n1_ := Aside0.mk (Kd.R_lower (Kd.R_new' (Kd.R_newM (M := fun k_ => (P0_ k_ ∨ w.heap.size ≤ k_)) ho130 (by first | exact HK.out.1 | exact (show Kept w _ (fun k_ => P0_ k_) from by repeat (first | (with_reducible first | exact HK.out | apply Kept.alloc | apply Kept.drewN | apply Kept.drew) | exact HK.out)).1) (fun k_ h_ => .inr h_)) (Kd.R_lt (by (with_reducible repeat (first | apply Kd.R_alloc | apply Kd.R_drewN | apply Kd.R_drew)); exact HO_0.out))) (below_size (by repeat (first | (with_reducible first | exact HB.out | apply below_alloc | apply pw_below_drewN | apply below_drew1) | exact HB.out)))); have n2_ := Aside0.mk (Kept.below (S := (fun k_ => P0_ k_)) (by repeat (first | (with_reducible first | exact HK.out | apply Kept.alloc | apply Kept.drewN | apply Kept.drew) | exact HK.out)) hb); have n3_ := Aside0.mk (below_step (by repeat (first | (with_reducible first | exact HB.out | apply below_alloc | apply pw_below_drewN | apply below_drew1) | exact HB.out)) hb); clear HO_0; clear HK; clear HB; have HO_0 := n0_; have HO188 := n1_; have HK := n2_; have HB := n3_; clear n0_ n1_ n2_ n3_; clear hb ho130; obtain ⟨Ao132, co132, eo132⟩ := Kd.R_slice HO188.out; subst eo132) | ((with_reducible refine gate_builtin (b := .append) (xs := #[.tmp 123, .tmp 127]) rfl ?_); at_builtin; refine Kd.R_append_rows (Kd.int .u8) (w0 := w0) w0.heap.size rfl (.tmp 123) (.tmp 127) 39 5 (.int .u8 0) 1 rfl Tryd.underlying39 info5 rfl (by decide) (by omega) u0 x0_1 y186 _ _ _ (fun k_ => (P0_ k_ ∨ w.heap.size ≤ k_) ∧ some k_ ≠ (.slice Ao132 y186.length co132 : Value).ownBlock) (fun _ => False) rfl rfl ?aO ?aR (fun _ _ h => h) (fun _ h => h.elim) ?aF ?aB ?aS ?aL ?_; (case aR => repeat (first | exact (Kd.R_reads' HO188.out).2.2 | (with_reducible refine Kd.C_alloc ?_ _) | (with_reducible refine Kd.C_drewN ?_ _) | (with_reducible refine Kd.C_drew ?_))); (case aB => exact (by repeat (first | (with_reducible first | exact HB.out | apply below_alloc | apply pw_below_drewN | apply below_drew1) | exact HB.out))); (case aF => exact (fun k_ hk => ⟨(.inr (Nat.le_trans (by first | exact HK.out.1 | exact (show Kept w _ (fun k_ => P0_ k_) from by repeat (first | (with_reducible first | exact HK.out | apply Kept.alloc | apply Kept.drewN | apply Kept.drew) | exact HK.out)).1) hk)), Kd.fresh' (Kd.R_lt (by (with_reducible repeat (first | apply Kd.R_alloc | apply Kd.R_drewN | apply Kd.R_drew)); exact HO188.out)) k_ hk⟩)); (case aO => exact (by (with_reducible repeat (first | apply Kd.R_alloc | apply Kd.R_drewN | apply Kd.R_drew)); exact HO_0.out)); (case aS => exact (below_size (by repeat (first | (with_reducible first | exact HB.out | apply below_alloc | apply pw_below_drewN | apply below_drew1) | exact HB.out)))); (case aL => have := LMc128.out; omega); intro v190 w131 ho hb hg hat; rw [← Ny189.out] at ho; have n0_ := Aside0.mk (Kd.R_after (ok := (fun k_ => (P0_ k_ ∨ w.heap.size ≤ k_))) (by (with_reducible repeat (first | apply Kd.R_alloc | apply Kd.R_drewN | apply Kd.R_drew)); exact Kd.R_mono HO188.out (fun _ hk => ⟨hk.1.1, hk.2⟩)) hg hat); have n1_ := Aside0.mk (hb); have n2_ := Aside0.mk (Kept.of_grown (S := (fun k_ => P0_ k_)) hg (by repeat (first | (with_reducible first | exact HK.out | apply Kept.alloc | apply Kept.drewN | apply Kept.drew) | exact HK.out)) (fun k_ e_ => (HO_0.out.1 k_ e_).1)); have n3_ := Aside0.mk (ho); clear HO188; clear HB; clear HK; clear HO_0; have HO188 := n0_; have HB := n1_; have HK := n2_; have HO191 := n3_; clear n0_ n1_ n2_ n3_; clear ho hb hg hat))
                go_roundg kj108
                case measure => have := HK1.out; have := HJ108.out; omega
                case rel => exact ⟨(y189), (wrap64 (x5_1 + t176)), (by first | rfl | (simp; done) | (simp [nil_ne_, nil_eq_]; done) | (simp [*]; done)), (by first | exact H' | (rw [hjs107]; exact H') | (simp only [hjs107]; exact H') | (simp only [hjs107] at H' ⊢; exact H')), ⟨by have := HK1.out; have := HJ108.out; omega⟩, ⟨by (with_reducible repeat (first | apply Kd.R_alloc | apply Kd.R_drewN | apply Kd.R_drew)); exact Kd.R_mono HO191.out (fun _ hk => hk.1)⟩, ⟨by repeat (first | (with_reducible first | exact HK.out | apply Kept.alloc | apply Kept.drewN | apply Kept.drew) | exact HK.out)⟩, ⟨by repeat (first | (with_reducible first | exact HB.out | apply below_alloc | apply pw_below_drewN | apply below_drew1) | exact HB.out)⟩⟩
               ·
                rw [if_neg c128] at H
                exact absurd H (by simp)
              ·
               rw [if_neg c126] at H
               exact absurd H (by simp)
             ·
              rw [if_neg c125] at H
              exact absurd H (by simp)
            ·
             rw [if_neg c124] at H
             have c124b0 : (t175 == 8233) = false := beq_eq_false_iff_ne.mpr c124
             have c124b1 : (t175 != 8233) = true := bne_iff_ne.mpr c124
             by_cases c133 : 0 ≤ x5_1
             ·
              rw [if_pos c133] at H
              have c133b0 := eq_true c133
              have c133b1 : decide (0 ≤ x5_1) = true := decide_eq_true c133
              clear c133
              by_cases c134 : x5_1 ≤ (wrap64 (x5_1 + t176))
              ·
               rw [if_pos c134] at H
               have c134b0 := eq_true c134
               have c134b1 : decide (x5_1 ≤ (wrap64 (x5_1 + t176))) = true := decide_eq_true c134
               by_cases c135 : (wrap64 (x5_1 + t176)) ≤ (a1.size : Int)
               ·
                rw [if_pos c135] at H
                have c135b0 := eq_true c135
                have c135b1 : decide ((wrap64 (x5_1 + t176)) ≤ (a1.size : Int)) = true := decide_eq_true c135
                obtain ⟨js136, hjs136⟩ : ∃ j_ : ByteArray, (a1.extract (x5_1 : Int).toNat ((wrap64 (x5_1 + t176)) : Int).toNat) = j_ := ⟨_, rfl⟩
                skip
                replace H : (if x0_1.length + js136.size < 140737488355328 then (sjson_zzMarshal.l0 kj108 (x0_1 ++ bytesOf js136) a1 (wrap64 (x5_1 + t176))) else (none)) = some r := by first | (rw [hjs136] at H; exact H) | (simp only [hjs136] at H ⊢; exact H)
                by_cases c137 : x0_1.length + js136.size < 140737488355328
                ·
                 rw [if_pos c137] at H
                 have LMc137 := Aside0.mk c137
                 clear c137
                 obtain ⟨y192, hy192⟩ : ∃ y_ : List Int, y_ = (x0_1 ++ bytesOf js136) := ⟨_, rfl⟩
                 replace H : (sjson_zzMarshal.l0 kj108 y192 a1 (wrap64 (x5_1 + t176))) = some r := by first | (rw [hy192]; with_reducible exact H) | (have H2_ := (Option.bind_some _ _).symm.trans H; rw [hy192]; with_reducible exact H2_) | (have H2_ := (Option.bind_some _ _).symm.trans H; with_reducible exact H2_) | with_reducible exact H | (rw [hy192]; exact H) | exact H
                 have Ny192 := Aside0.mk hy192
                 clear hy192
                 have H' := Aside0.mk H
                 clear H
                 go_wp2_with (first | (at_builtin; refine print_append_str_R (w0 := w0) w0.heap.size rfl (.tmp 99) _ 39 9 5 rfl Tryd.underlying39 Tryd.underlying9 info5 u0 x0_1 js136 (fun k_ => (P0_ k_ ∨ w.heap.size ≤ k_)) rfl rfl ?aF ?aO ?aB ?aS ?aL ?_; (case aB => exact (by repeat (first | (with_reducible first | exact HB.out | apply below_alloc | apply pw_below_drewN | apply below_drew1) | exact HB.out))); (case aF => exact (fun k_ hk => (.inr (Nat.le_trans (by first | exact HK.out.1 | exact (show Kept w _ (fun k_ => P0_ k_) from by repeat (first | (with_reducible first | exact HK.out | apply Kept.alloc | apply Kept.drewN | apply Kept.drew) | exact HK.out)).1) hk)))); (case aO => exact (by (with_reducible repeat (first | apply Kd.R_alloc | apply Kd.R_drewN | apply Kd.R_drew)); exact HO_0.out)); (case aS => exact (below_size (by repeat (first | (with_reducible first | exact HB.out | apply below_alloc | apply pw_below_drewN | apply below_drew1) | exact HB.out)))); (case aL => have := LMc137.out; (first | omega | (simp only [sz_mk, List.size_toArray, List.length_cons, List.length_nil]; omega))); intro v193 w138 ho hb hg hat; rw [← Ny192.out] at ho; change Kd.R (Kd.int .u8) 5 w138 w0.heap.size (fun k_ => (P0_ k_ ∨ w.heap.size ≤ k_)) v193 y192 at ho; have n0_ := Aside0.mk (hb); have n1_ := Aside0.mk (Kept.of_grown (S := (fun k_ => P0_ k_)) hg (by repeat (first | (with_reducible first | exact HK.out | apply Kept.alloc | apply Kept.drewN | apply Kept.drew) | exact HK.out)) (fun k_ e_ => (HO_0.out.1 k_ e_))); have n2_ := Aside0.mk (ho); clear HB; clear HK; clear HO_0; have HB := n0_; have HK := n1_; have HO194 := n2_; clear n0_ n1_ n2_; clear ho hb hg hat))
                 go_roundg kj108
                 case measure => have := HK1.out; have := HJ108.out; omega
                 case rel => exact ⟨(y192), (wrap64 (x5_1 + t176)), (by first | rfl | (simp; done) | (simp [nil_ne_, nil_eq_]; done) | (simp [*]; done)), (by first | exact H' | (rw [hjs136]; exact H') | (simp only [hjs107, hjs136]; exact H') | (simp only [hjs107, hjs136] at H' ⊢; exact H')), ⟨by have := HK1.out; have := HJ108.out; omega⟩, ⟨by (with_reducible repeat (first | apply Kd.R_alloc | apply Kd.R_drewN | apply Kd.R_drew)); exact HO194.out⟩, ⟨by repeat (first | (with_reducible first | exact HK.out | apply Kept.alloc | apply Kept.drewN | apply Kept.drew) | exact HK.out)⟩, ⟨by repeat (first | (with_reducible first | exact HB.out | apply below_alloc | apply pw_below_drewN | apply below_drew1) | exact HB.out)⟩⟩
                ·
                 rw [if_neg c137] at H
                 exact absurd H (by simp)
               ·
                rw [if_neg c135] at H
                exact absurd H (by simp)
              ·
               rw [if_neg c134] at H
               exact absurd H (by simp)
             ·
              rw [if_neg c133] at H
              exact absurd H (by simp)
       ·
        rw [if_neg c106] at H
        exact absurd H (by simp)
     ·
      rw [if_neg c6] at H
      exact absurd H (by simp)
    ·
     rw [if_neg c5] at H
     have c5b0 : decide (x5_1 < (a1.size : Int)) = false := decide_eq_false c5
     clear c5
     by_cases c139 : x0_1.length < 140737488355328
     ·
      rw [if_pos c139] at H
      have LMc139 := Aside0.mk c139
      clear c139
      obtain ⟨y109, hy109⟩ : ∃ y_ : List Int, y_ = (x0_1 ++ [34]) := ⟨_, rfl⟩
      replace H : (some y109) = some r := by first | (rw [hy109]; with_reducible exact H) | (have H2_ := (Option.bind_some _ _).symm.trans H; rw [hy109]; with_reducible exact H2_) | (have H2_ := (Option.bind_some _ _).symm.trans H; with_reducible exact H2_) | with_reducible exact H | (rw [hy109]; exact H) | exact H
      have Ny109 := Aside0.mk hy109
      clear hy109
      obtain rfl := Option.some.inj H
      go_wp2_with (first | ((with_reducible refine gate_builtin (b := .append) (xs := #[.tmp 132, .tmp 133]) rfl ?_); at_builtin; refine Kd.R_append (Kd.int .u8) (w0 := w0) w0.heap.size rfl (.tmp 132) (.tmp 133) 39 5 (.int .u8 0) 1 rfl Tryd.underlying39 info5 rfl (by decide) (by omega) u0 x0_1 34 [.int .u8 34] (fun k_ => (P0_ k_ ∨ w.heap.size ≤ k_)) (fun _ => False) rfl rfl ?aP (fun _ hk => hk.elim) ?aF ?aO ?aB ?aS ?aL ?_; (case aP => exact rfl); (case aB => exact (by repeat (first | (with_reducible first | exact HB.out | apply below_alloc | apply pw_below_drewN | apply below_drew1) | exact HB.out))); (case aF => exact (fun k_ hk => (.inr (Nat.le_trans (by first | exact HK.out.1 | exact (show Kept w _ (fun k_ => P0_ k_) from by repeat (first | (with_reducible first | exact HK.out | apply Kept.alloc | apply Kept.drewN | apply Kept.drew) | exact HK.out)).1) hk)))); (case aO => exact (by (with_reducible repeat (first | apply Kd.R_alloc | apply Kd.R_drewN | apply Kd.R_drew)); exact HO_0.out)); (case aS => exact (below_size (by repeat (first | (with_reducible first | exact HB.out | apply below_alloc | apply pw_below_drewN | apply below_drew1) | exact HB.out)))); (case aL => have := LMc139.out; omega); intro v110 w140 ho hb hg hat; rw [← Ny109.out] at ho; have n0_ := Aside0.mk (hb); have n1_ := Aside0.mk (Kept.of_grown (S := (fun k_ => P0_ k_)) hg (by repeat (first | (with_reducible first | exact HK.out | apply Kept.alloc | apply Kept.drewN | apply Kept.drew) | exact HK.out)) (fun k_ e_ => (HO_0.out.1 k_ e_))); have n2_ := Aside0.mk (ho); clear HB; clear HK; clear HO_0; have HB := n0_; have HK := n1_; have HO111 := n2_; clear n0_ n1_ n2_; clear ho hb hg hat))
      go_ret
      exact ⟨_, by first | rfl | (simp [errW_none, errW_some] <;> rfl) | (simp [*, errW_none, errW_some] <;> rfl), by (with_reducible repeat (first | apply Kd.R_alloc | apply Kd.R_drewN | apply Kd.R_drew)); exact HO111.out, by repeat (first | (with_reducible first | exact HB.out | apply below_alloc | apply pw_below_drewN | apply below_drew1) | exact HB.out), by repeat (first | (with_reducible first | exact HK.out | apply Kept.alloc | apply Kept.drewN | apply Kept.drew) | exact HK.out)⟩
     ·
      rw [if_neg c139] at H
      exact absurd H (by simp)
 ·
  rw [if_neg c3] at H
  exact absurd H (by simp)

end Go.Proofs.YtljmeaemonpkoaaDoor.PFnSjStringJoin
