-- Written by a program of this session (wip/prx) out of the print of the loaded functions.
import Derived.Test.YtljmeaemonpkoaaDoorPFnMtLimitOnex0
import Derived.Test.YtljmeaemonpkoaaDoorPFnMtLimitOnex4
import Derived.Test.YtljmeaemonpkoaaDoorPFnMtLimitOnex6
import Derived.Test.YtljmeaemonpkoaaDoorGUFnMtLimitOne
namespace Go.Proofs.YtljmeaemonpkoaaDoor.PFnMtLimitOne
open Go.RowKit Go.Proofs.YtljmeaemonpkoaaDoorW.PrintWords Go.Proofs.YtljmeaemonpkoaaDoorW.PrintLast Go.Proofs.YtljmeaemonpkoaaDoorW.PrintMore
attribute [local go_sem] max2_int min2_int max_two min_two max_three min_three max_four min_four   -- for this text's walks alone
set_option linter.unusedVariables false
set_option linter.unusedSimpArgs false

/-! ### match_matchLimit0: function 38 -/
def match_matchLimit0.f (k : Nat) (a0 : ByteArray) (a1 : ByteArray) (a2 : Int) (a3 : Bool) : Option (Bool × Bool) := if a1.toList = ([42] : List UInt8) then (some (true, false)) else ((match_match.f k a0 a1 (a0.size : Int) 0 a2 a3).bind fun bt177 => (if bt177.1 = 2 then (some (false, true)) else (some ((bt177.1 == 1), false))))
theorem match_matchLimit0.mono : ∀ a0 a1 a2 a3 k, LeO (match_matchLimit0.f k a0 a1 a2 a3) (match_matchLimit0.f (k + 1) a0 a1 a2 a3) := by
  intro a0 a1 a2 a3 k
  unfold match_matchLimit0.f
  repeat' first
      | (with_reducible exact match_match.mono _ _ _ _ _ _ _)
      | (with_reducible exact LeO.refl _)
      | (with_reducible exact LeO.none _)
      | (with_reducible refine LeO.ite ?_ ?_)
      | (with_reducible refine LeO.bind ?_ (fun _ => ?_))
      | exact match_match.mono _ _ _ _ _ _ _
      | exact LeO.none _
      | refine LeO.ite ?_ ?_
      | refine LeO.bind ?_ (fun _ => ?_)
set_option maxHeartbeats 8000000 in
set_option maxRecDepth 100000 in
theorem match_matchLimit0.calls (k : Nat) (a0 : ByteArray) (a1 : ByteArray) (a2 : Int) (a3 : Bool) (r1 : Bool) (r2 : Bool) (w : World) (h : match_matchLimit0.f k a0 a1 a2 a3 = some (r1, r2)) (hG : Glob w) :
    Calls Tryd.prog 38 #[.string a0, .string a1, .int .i64 a2, .bool a3] w fun e w' => e = .returned (.tuple #[.bool r1, .bool r2]) ∧ Below w.heap.size w w' := by
 have HB := Aside0.mk (Below.refl w.heap.size w)
 have HG := Aside0.mk hG
 clear hG
 have H : (if a1.toList = ([42] : List UInt8) then (some (true, false)) else ((match_match.f k a0 a1 (a0.size : Int) 0 a2 a3).bind fun bt177 => (if bt177.1 = 2 then (some (false, true)) else (some ((bt177.1 == 1), false))))) = some (r1, r2) := h
 clear h
 by_cases c5 : a1.toList = ([42] : List UInt8)
 ·
  rw [if_pos c5] at H
  have c5b0 : (a1.toList == ([42] : List UInt8)) = true := beq_iff_eq.mpr c5
  have c5b1 : (a1.toList != ([42] : List UInt8)) = false := bne_eq_false_iff_eq.mpr c5
  clear c5
  simp only [Option.some.injEq, Prod.mk.injEq] at H
  obtain ⟨rfl, rfl⟩ := H
  go_enter Tryd.func38, Tryd.ntmps38
  go_wp2
  go_ret2
  exact ⟨by first | rfl | (simp [errW_none, errW_some] <;> rfl) | (simp [*, errW_none, errW_some] <;> rfl), by repeat (first | (with_reducible first | exact HB.out | apply below_alloc | apply pw_below_drewN | apply below_drew1) | exact HB.out)⟩
 ·
  rw [if_neg c5] at H
  have c5b0 : (a1.toList == ([42] : List UInt8)) = false := beq_eq_false_iff_ne.mpr c5
  have c5b1 : (a1.toList != ([42] : List UInt8)) = true := bne_iff_ne.mpr c5
  replace H := Option.bind_eq_some_iff.mp H
  obtain ⟨⟨t177, t178⟩, A60, H⟩ := H
  replace H : (if t177 = 2 then (some (false, true)) else (some ((t177 == 1), false))) = some (r1, r2) := H
  have A6 := Aside0.mk A60
  clear A60
  by_cases c7 : t177 = 2
  ·
   rw [if_pos c7] at H
   have c7b0 : (t177 == 2) = true := beq_iff_eq.mpr c7
   have c7b1 : (t177 != 2) = false := bne_eq_false_iff_eq.mpr c7
   clear c7
   simp only [Option.some.injEq, Prod.mk.injEq] at H
   obtain ⟨rfl, rfl⟩ := H
   go_enter Tryd.func38, Tryd.ntmps38
   go_wp2_with (first | ((with_reducible refine gate_dst (N := 10) rfl ?_); refine box_event ?hg (N := 10) ?hd (cs := #[.int .i64 0]) (t := 3) ?hr ?_; (case hd => rfl); (case hg => rfl); (case hr => first | (go_simp; done) | (go_simp; rfl)); intro gb176 hg w8 hbox hb; have n0_ := Aside0.mk (below_step (by repeat (first | (with_reducible first | exact HB.out | apply below_alloc | apply pw_below_drewN | apply below_drew1) | exact HB.out)) hb); have n1_ := Aside0.mk ((by rw [hg]; exact (below_size (by repeat (first | (with_reducible first | exact HB.out | apply below_alloc | apply pw_below_drewN | apply below_drew1) | exact HB.out))) : w.heap.size ≤ gb176)); have n2_ := Aside0.mk ((by rw [hg]; exact (below_size (by repeat (first | (with_reducible first | exact HB.out | apply below_alloc | apply pw_below_drewN | apply below_drew1) | exact HB.out))) : w.heap.size ≤ gb176)); have n3_ := Aside0.mk (IsS3.of_blk 0 hbox (by rw [hg]; exact (below_size (by repeat (first | (with_reducible first | exact HB.out | apply below_alloc | apply pw_below_drewN | apply below_drew1) | exact HB.out))) : w.heap.size ≤ gb176)); clear HB; have HB := n0_; have GW176 := n1_; have GE176 := n2_; have HI176 := n3_; clear n0_ n1_ n2_ n3_; clear hb hbox hg; obtain ⟨HGz9, hgz9⟩ := HI176.out; have hcz9_0 := cellS3_0 HGz9; have hfz9_0 := blk_frozen HGz9 0; clear HGz9 hgz9) | ((with_reducible refine gate_callee (f := 45) rfl ?_); refine goesL_ (some 20) rfl rfl Tryd.func45 (by kernel_rfl) rfl #[.string a0, .string a1, .int .i64 (a0.size : Int), .pointer (some ⟨gb176, 0, none⟩), .int .i64 a2, .bool a3] rfl (by (try simp only [List.map_toArray, List.map_cons, List.map_nil]); first | done | rfl | (simp only [List.length_drop, List.length_take]; rfl)) ?_; (with_reducible refine (match_match.calls k a0 a1 (a0.size : Int) gb176 0 a2 a3 t177 t178 w _ ?side1 ?side2 A6.out HG.out).mono ?_); (case side1 => repeat (first | (with_reducible first | exact HI176.out | apply IsS3.alloc | apply IsS3.drewN | apply IsS3.drew | apply IsS3.set_0) | exact HI176.out)); (case side2 => repeat (first | (with_reducible first | exact HB.out | apply below_alloc | apply pw_below_drewN | apply below_drew1 | refine below_set ?_ (IsS3.ge HI176.out)) | exact HB.out)); rintro e w10 ⟨rfl, hi, hb, hk⟩; refine ⟨_, rfl, ?_⟩; have n0_ := Aside0.mk (hb); have n1_ := Aside0.mk (hi); clear HB; clear HI176; have HB := n0_; have HI176 := n1_; clear n0_ n1_; (try clear hb); (try clear hb2); (try clear hk); (try clear hi)))
   go_ret2
   exact ⟨by first | rfl | (simp [errW_none, errW_some] <;> rfl) | (simp [*, errW_none, errW_some] <;> rfl), by repeat (first | (with_reducible first | exact HB.out | apply below_alloc | apply pw_below_drewN | apply below_drew1 | refine below_set ?_ (IsS3.ge HI176.out)) | exact HB.out)⟩
  ·
   rw [if_neg c7] at H
   have c7b0 : (t177 == 2) = false := beq_eq_false_iff_ne.mpr c7
   have c7b1 : (t177 != 2) = true := bne_iff_ne.mpr c7
   simp only [Option.some.injEq, Prod.mk.injEq] at H
   obtain ⟨rfl, rfl⟩ := H
   go_enter Tryd.func38, Tryd.ntmps38
   go_wp2_with (first | ((with_reducible refine gate_dst (N := 10) rfl ?_); refine box_event ?hg (N := 10) ?hd (cs := #[.int .i64 0]) (t := 3) ?hr ?_; (case hd => rfl); (case hg => rfl); (case hr => first | (go_simp; done) | (go_simp; rfl)); intro gb176 hg w11 hbox hb; have n0_ := Aside0.mk (below_step (by repeat (first | (with_reducible first | exact HB.out | apply below_alloc | apply pw_below_drewN | apply below_drew1) | exact HB.out)) hb); have n1_ := Aside0.mk ((by rw [hg]; exact (below_size (by repeat (first | (with_reducible first | exact HB.out | apply below_alloc | apply pw_below_drewN | apply below_drew1) | exact HB.out))) : w.heap.size ≤ gb176)); have n2_ := Aside0.mk ((by rw [hg]; exact (below_size (by repeat (first | (with_reducible first | exact HB.out | apply below_alloc | apply pw_below_drewN | apply below_drew1) | exact HB.out))) : w.heap.size ≤ gb176)); have n3_ := Aside0.mk (IsS3.of_blk 0 hbox (by rw [hg]; exact (below_size (by repeat (first | (with_reducible first | exact HB.out | apply below_alloc | apply pw_below_drewN | apply below_drew1) | exact HB.out))) : w.heap.size ≤ gb176)); clear HB; have HB := n0_; have GW176 := n1_; have GE176 := n2_; have HI176 := n3_; clear n0_ n1_ n2_ n3_; clear hb hbox hg; obtain ⟨HGz12, hgz12⟩ := HI176.out; have hcz12_0 := cellS3_0 HGz12; have hfz12_0 := blk_frozen HGz12 0; clear HGz12 hgz12) | ((with_reducible refine gate_callee (f := 45) rfl ?_); refine goesL_ (some 20) rfl rfl Tryd.func45 (by kernel_rfl) rfl #[.string a0, .string a1, .int .i64 (a0.size : Int), .pointer (some ⟨gb176, 0, none⟩), .int .i64 a2, .bool a3] rfl (by (try simp only [List.map_toArray, List.map_cons, List.map_nil]); first | done | rfl | (simp only [List.length_drop, List.length_take]; rfl)) ?_; (with_reducible refine (match_match.calls k a0 a1 (a0.size : Int) gb176 0 a2 a3 t177 t178 w _ ?side1 ?side2 A6.out HG.out).mono ?_); (case side1 => repeat (first | (with_reducible first | exact HI176.out | apply IsS3.alloc | apply IsS3.drewN | apply IsS3.drew | apply IsS3.set_0) | exact HI176.out)); (case side2 => repeat (first | (with_reducible first | exact HB.out | apply below_alloc | apply pw_below_drewN | apply below_drew1 | refine below_set ?_ (IsS3.ge HI176.out)) | exact HB.out)); rintro e w13 ⟨rfl, hi, hb, hk⟩; refine ⟨_, rfl, ?_⟩; have n0_ := Aside0.mk (hb); have n1_ := Aside0.mk (hi); clear HB; clear HI176; have HB := n0_; have HI176 := n1_; clear n0_ n1_; (try clear hb); (try clear hb2); (try clear hk); (try clear hi)))
   go_ret2
   exact ⟨by first | rfl | (simp [errW_none, errW_some] <;> rfl) | (simp [*, errW_none, errW_some] <;> rfl), by repeat (first | (with_reducible first | exact HB.out | apply below_alloc | apply pw_below_drewN | apply below_drew1 | refine below_set ?_ (IsS3.ge HI176.out)) | exact HB.out)⟩

/-! ### match_MatchLimit: function 26 -/
def match_MatchLimit.f (k : Nat) (a0 : ByteArray) (a1 : ByteArray) (a2 : Int) : Option (Bool × Bool) := (match_matchLimit0.f k a0 a1 a2 false).bind fun bt179 => (some (bt179.1, bt179.2))
theorem match_MatchLimit.mono : ∀ a0 a1 a2 k, LeO (match_MatchLimit.f k a0 a1 a2) (match_MatchLimit.f (k + 1) a0 a1 a2) := by
  intro a0 a1 a2 k
  unfold match_MatchLimit.f
  repeat' first
      | (with_reducible exact match_matchLimit0.mono _ _ _ _ _)
      | (with_reducible exact LeO.refl _)
      | (with_reducible exact LeO.none _)
      | (with_reducible refine LeO.ite ?_ ?_)
      | (with_reducible refine LeO.bind ?_ (fun _ => ?_))
      | exact match_matchLimit0.mono _ _ _ _ _
      | exact LeO.none _
      | refine LeO.ite ?_ ?_
      | refine LeO.bind ?_ (fun _ => ?_)
set_option maxHeartbeats 8000000 in
set_option maxRecDepth 100000 in
theorem match_MatchLimit.calls (k : Nat) (a0 : ByteArray) (a1 : ByteArray) (a2 : Int) (r1 : Bool) (r2 : Bool) (w : World) (h : match_MatchLimit.f k a0 a1 a2 = some (r1, r2)) (hG : Glob w) :
    Calls Tryd.prog 26 #[.string a0, .string a1, .int .i64 a2] w fun e w' => e = .returned (.tuple #[.bool r1, .bool r2]) ∧ Below w.heap.size w w' := by
 have HB := Aside0.mk (Below.refl w.heap.size w)
 have HG := Aside0.mk hG
 clear hG
 have H : ((match_matchLimit0.f k a0 a1 a2 false).bind fun bt179 => (some (bt179.1, bt179.2))) = some (r1, r2) := h
 clear h
 replace H := Option.bind_eq_some_iff.mp H
 obtain ⟨⟨t179, t180⟩, A40, H⟩ := H
 replace H : (some (t179, t180)) = some (r1, r2) := H
 have A4 := Aside0.mk A40
 clear A40
 simp only [Option.some.injEq, Prod.mk.injEq] at H
 obtain ⟨rfl, rfl⟩ := H
 go_enter Tryd.func26, Tryd.ntmps26
 go_wp2_with (first | ((with_reducible refine gate_callee (f := 38) rfl ?_); refine goesL_ (some 11) rfl rfl Tryd.func38 (by kernel_rfl) rfl #[.string a0, .string a1, .int .i64 a2, .bool false] rfl (by (try simp only [List.map_toArray, List.map_cons, List.map_nil]); first | done | rfl | (simp only [List.length_drop, List.length_take]; rfl)) ?_; (with_reducible refine (match_matchLimit0.calls k a0 a1 a2 false t179 t180 _ A4.out (HG.out.below (by repeat (first | (with_reducible first | exact HB.out | apply below_alloc | apply pw_below_drewN | apply below_drew1) | exact HB.out)))).mono ?_); rintro e w5 ⟨rfl, hb⟩; refine ⟨_, rfl, ?_⟩; have n0_ := Aside0.mk (below_step (by repeat (first | (with_reducible first | exact HB.out | apply below_alloc | apply pw_below_drewN | apply below_drew1) | exact HB.out)) hb); clear HB; have HB := n0_; clear n0_; (try clear hb); (try clear hb2); (try clear hk); (try clear hi)))
 go_ret2
 exact ⟨by first | rfl | (simp [errW_none, errW_some] <;> rfl) | (simp [*, errW_none, errW_some] <;> rfl), by repeat (first | (with_reducible first | exact HB.out | apply below_alloc | apply pw_below_drewN | apply below_drew1) | exact HB.out)⟩

/-! ### impl_MtLimit: function 15 -/
def impl_MtLimit.f (k : Nat) (a0 : ByteArray) (a1 : ByteArray) (a2 : Int) : Option (Bool × Bool) := (match_MatchLimit.f k a0 a1 a2).bind fun bt181 => (some (bt181.1, bt181.2))
theorem impl_MtLimit.mono : ∀ a0 a1 a2 k, LeO (impl_MtLimit.f k a0 a1 a2) (impl_MtLimit.f (k + 1) a0 a1 a2) := by
  intro a0 a1 a2 k
  unfold impl_MtLimit.f
  repeat' first
      | (with_reducible exact match_MatchLimit.mono _ _ _ _)
      | (with_reducible exact LeO.refl _)
      | (with_reducible exact LeO.none _)
      | (with_reducible refine LeO.ite ?_ ?_)
      | (with_reducible refine LeO.bind ?_ (fun _ => ?_))
      | exact match_MatchLimit.mono _ _ _ _
      | exact LeO.none _
      | refine LeO.ite ?_ ?_
      | refine LeO.bind ?_ (fun _ => ?_)
set_option maxHeartbeats 8000000 in
set_option maxRecDepth 100000 in
theorem impl_MtLimit.calls (k : Nat) (a0 : ByteArray) (a1 : ByteArray) (a2 : Int) (r1 : Bool) (r2 : Bool) (w : World) (h : impl_MtLimit.f k a0 a1 a2 = some (r1, r2)) (hG : Glob w) :
    Calls Tryd.prog 15 #[.string a0, .string a1, .int .i64 a2] w fun e w' => e = .returned (.tuple #[.bool r1, .bool r2]) ∧ Below w.heap.size w w' := by
 have HB := Aside0.mk (Below.refl w.heap.size w)
 have HG := Aside0.mk hG
 clear hG
 have H : ((match_MatchLimit.f k a0 a1 a2).bind fun bt181 => (some (bt181.1, bt181.2))) = some (r1, r2) := h
 clear h
 replace H := Option.bind_eq_some_iff.mp H
 obtain ⟨⟨t181, t182⟩, A40, H⟩ := H
 replace H : (some (t181, t182)) = some (r1, r2) := H
 have A4 := Aside0.mk A40
 clear A40
 simp only [Option.some.injEq, Prod.mk.injEq] at H
 obtain ⟨rfl, rfl⟩ := H
 go_enter Tryd.func15, Tryd.ntmps15
 go_wp2_with (first | ((with_reducible refine gate_callee (f := 26) rfl ?_); refine goesL_ (some 11) rfl rfl Tryd.func26 (by kernel_rfl) rfl #[.string a0, .string a1, .int .i64 a2] rfl (by (try simp only [List.map_toArray, List.map_cons, List.map_nil]); first | done | rfl | (simp only [List.length_drop, List.length_take]; rfl)) ?_; (with_reducible refine (match_MatchLimit.calls k a0 a1 a2 t181 t182 _ A4.out (HG.out.below (by repeat (first | (with_reducible first | exact HB.out | apply below_alloc | apply pw_below_drewN | apply below_drew1) | exact HB.out)))).mono ?_); rintro e w5 ⟨rfl, hb⟩; refine ⟨_, rfl, ?_⟩; have n0_ := Aside0.mk (below_step (by repeat (first | (with_reducible first | exact HB.out | apply below_alloc | apply pw_below_drewN | apply below_drew1) | exact HB.out)) hb); clear HB; have HB := n0_; clear n0_; (try clear hb); (try clear hb2); (try clear hk); (try clear hi)))
 go_ret2
 exact ⟨by first | rfl | (simp [errW_none, errW_some] <;> rfl) | (simp [*, errW_none, errW_some] <;> rfl), by repeat (first | (with_reducible first | exact HB.out | apply below_alloc | apply pw_below_drewN | apply below_drew1) | exact HB.out)⟩

/-! ### laws_FnMtLimitOne: function 6 -/
mutual
def laws_FnMtLimitOne.j0 : Nat → ByteArray → ByteArray → Int → Bool → Option (Bool)
  | 0, _, _, _, _ => none
  | k + 1, x0, x1, x2, x20 => if x20 = true then (some true) else ((laws_mtTold.f k x0 x1).bind fun bt183 => (laws_FnMtLimitOne.l0 k x0 x1 x2 bt183.1 bt183.2 0 0))
def laws_FnMtLimitOne.l0 : Nat → ByteArray → ByteArray → Int → Bool → Bool → Int → Int → Option (Bool)
  | 0, _, _, _, _, _, _, _ => none
  | k + 1, x0, x1, x2, x7, x8, x9, x10 => if x10 < (x1.size : Int) then (if 0 ≤ x10 then (if (bt x1 x10) = 42 then (laws_FnMtLimitOne.l0 k x0 x1 x2 x7 x8 (wrap64 (x9 + 1)) (wrap64 (x10 + 1))) else (laws_FnMtLimitOne.l0 k x0 x1 x2 x7 x8 x9 (wrap64 (x10 + 1)))) else (none)) else (if x8 = true then (if x0.toList = ([] : List UInt8) then (some true) else (if x9 > 1 then (some true) else (if x2 < 2 then (some true) else (if x2 > 1000000 then (some true) else ((impl_MtLimit.f k x0 x1 x2).bind fun bt185 => (if bt185.2 = true then (some false) else (some (bt185.1 == x7)))))))) else (some true))
end
def laws_FnMtLimitOne.f (k : Nat) (a0 : ByteArray) (a1 : ByteArray) (a2 : Int) : Option (Bool) := if (a0.size : Int) > 2147483647 then (laws_FnMtLimitOne.j0 k a0 a1 a2 true) else (laws_FnMtLimitOne.j0 k a0 a1 a2 (decide ((a1.size : Int) > 2147483647)))
theorem laws_FnMtLimitOne.mono_l : ∀ k, (∀ y0 y1 y2 y3, LeO (laws_FnMtLimitOne.j0 k y0 y1 y2 y3) (laws_FnMtLimitOne.j0 (k + 1) y0 y1 y2 y3)) ∧ (∀ y0 y1 y2 y3 y4 y5 y6, LeO (laws_FnMtLimitOne.l0 k y0 y1 y2 y3 y4 y5 y6) (laws_FnMtLimitOne.l0 (k + 1) y0 y1 y2 y3 y4 y5 y6))
  | 0 => ⟨fun _ _ _ _ r h => by simp [laws_FnMtLimitOne.j0] at h, fun _ _ _ _ _ _ _ r h => by simp [laws_FnMtLimitOne.l0] at h⟩
  | k + 1 => by
    obtain ⟨ih0, ih1⟩ := laws_FnMtLimitOne.mono_l k
    refine ⟨?_, ?_⟩
    · intro y0 y1 y2 y3
      unfold laws_FnMtLimitOne.j0
      repeat' first
      | (with_reducible exact ih0 _ _ _ _)
      | (with_reducible exact ih1 _ _ _ _ _ _ _)
      | (with_reducible exact impl_MtLimit.mono _ _ _ _)
      | (with_reducible exact laws_mtTold.mono _ _ _)
      | (with_reducible exact LeO.refl _)
      | (with_reducible exact LeO.none _)
      | (with_reducible refine LeO.ite ?_ ?_)
      | (with_reducible refine LeO.bind ?_ (fun _ => ?_))
      | exact ih0 _ _ _ _
      | exact ih1 _ _ _ _ _ _ _
      | exact impl_MtLimit.mono _ _ _ _
      | exact laws_mtTold.mono _ _ _
      | exact LeO.none _
      | refine LeO.ite ?_ ?_
      | refine LeO.bind ?_ (fun _ => ?_)
    · intro y0 y1 y2 y3 y4 y5 y6
      unfold laws_FnMtLimitOne.l0
      repeat' first
      | (with_reducible exact ih0 _ _ _ _)
      | (with_reducible exact ih1 _ _ _ _ _ _ _)
      | (with_reducible exact impl_MtLimit.mono _ _ _ _)
      | (with_reducible exact laws_mtTold.mono _ _ _)
      | (with_reducible exact LeO.refl _)
      | (with_reducible exact LeO.none _)
      | (with_reducible refine LeO.ite ?_ ?_)
      | (with_reducible refine LeO.bind ?_ (fun _ => ?_))
      | exact ih0 _ _ _ _
      | exact ih1 _ _ _ _ _ _ _
      | exact impl_MtLimit.mono _ _ _ _
      | exact laws_mtTold.mono _ _ _
      | exact LeO.none _
      | refine LeO.ite ?_ ?_
      | refine LeO.bind ?_ (fun _ => ?_)
theorem laws_FnMtLimitOne.mono : ∀ a0 a1 a2 k, LeO (laws_FnMtLimitOne.f k a0 a1 a2) (laws_FnMtLimitOne.f (k + 1) a0 a1 a2) := by
  intro a0 a1 a2 k
  obtain ⟨ih0, ih1⟩ := laws_FnMtLimitOne.mono_l k
  unfold laws_FnMtLimitOne.f
  repeat' first
      | (with_reducible exact ih0 _ _ _ _)
      | (with_reducible exact ih1 _ _ _ _ _ _ _)
      | (with_reducible exact impl_MtLimit.mono _ _ _ _)
      | (with_reducible exact laws_mtTold.mono _ _ _)
      | (with_reducible exact LeO.refl _)
      | (with_reducible exact LeO.none _)
      | (with_reducible refine LeO.ite ?_ ?_)
      | (with_reducible refine LeO.bind ?_ (fun _ => ?_))
      | exact ih0 _ _ _ _
      | exact ih1 _ _ _ _ _ _ _
      | exact impl_MtLimit.mono _ _ _ _
      | exact laws_mtTold.mono _ _ _
      | exact LeO.none _
      | refine LeO.ite ?_ ?_
      | refine LeO.bind ?_ (fun _ => ?_)
set_option maxHeartbeats 8000000 in
set_option maxRecDepth 100000 in
theorem laws_FnMtLimitOne.calls (k : Nat) (a0 : ByteArray) (a1 : ByteArray) (a2 : Int) (r : Bool) (w : World) (h : laws_FnMtLimitOne.f k a0 a1 a2 = some r) (hG : Glob w) :
    Calls Tryd.prog 6 #[.string a0, .string a1, .int .i64 a2] w fun e w' => e = .returned (.bool r) ∧ Below w.heap.size w w' := by
 have HB := Aside0.mk (Below.refl w.heap.size w)
 have HG := Aside0.mk hG
 clear hG
 have H : (if (a0.size : Int) > 2147483647 then (laws_FnMtLimitOne.j0 k a0 a1 a2 true) else (laws_FnMtLimitOne.j0 k a0 a1 a2 (decide ((a1.size : Int) > 2147483647)))) = some r := h
 clear h
 have HC4 := Aside0.mk H
 clear H
 go_enter Tryd.func6, Tryd.ntmps6
 go_upto_region 1 with (fail)
 go_cut [20] (fun v20 wc => ∃ (kq : Nat) (x20_3 : Bool), v20 = .bool x20_3 ∧ Aside0 (laws_FnMtLimitOne.j0 kq a0 a1 a2 x20_3 = some r) ∧ Aside0 (kq ≤ k) ∧ Aside0 (Below w.heap.size w wc))
 case first =>
  have H := HC4.out
  clear HC4
  by_cases c5 : (a0.size : Int) > 2147483647
  ·
   rw [if_pos c5] at H
   have c5b0 : decide (2147483647 < (a0.size : Int)) = true := decide_eq_true c5
   have c5b1 : decide (2147483647 < a0.size) = true := decide_eq_true (by omega)
   clear c5
   (first | rw [c5b0] | (simp only [i64_w, i32_w]; rw [c5b0]) | rw [c5b1] | skip)
   have H' := Aside0.mk H
   clear H
   go_wp2
   go_meet
   case rel => exact ⟨_, (true), (by first | rfl | (simp; done) | (simp [nil_ne_, nil_eq_]; done) | (simp [*]; done)), H', ⟨by first | omega | exact Nat.le_refl _⟩, ⟨by repeat (first | (with_reducible first | exact HB.out | apply below_alloc | apply pw_below_drewN | apply below_drew1) | exact HB.out)⟩⟩
  ·
   rw [if_neg c5] at H
   have c5b0 : decide (2147483647 < (a0.size : Int)) = false := decide_eq_false c5
   have c5b1 : decide (2147483647 < a0.size) = false := decide_eq_false (by omega)
   clear c5
   (first | rw [c5b0] | (simp only [i64_w, i32_w]; rw [c5b0]) | rw [c5b1] | skip)
   have H' := Aside0.mk H
   clear H
   go_wp2
   go_meet
   case rel => exact ⟨_, (decide ((a1.size : Int) > 2147483647)), (by first | rfl | (simp; done) | (simp [nil_ne_, nil_eq_]; done) | (simp [*]; done)), H', ⟨by first | omega | exact Nat.le_refl _⟩, ⟨by repeat (first | (with_reducible first | exact HB.out | apply below_alloc | apply pw_below_drewN | apply below_drew1) | exact HB.out)⟩⟩
 case rest =>
  clear HC4
  try clear p2
  try clear c5
  try clear c5b0
  try clear c5b1
  obtain ⟨kq, x20_3, rfl, HA, HJ3, HB⟩ := hcut
  cases kq with
  | zero => exact absurd HA.out (by simp [laws_FnMtLimitOne.j0])
  | succ kj3 =>
   have H := HA.out
   clear HA
   simp only [laws_FnMtLimitOne.j0] at H
   by_cases c6 : x20_3 = true
   ·
    subst c6
    have H1 : (some true) = some r := by rw [if_pos rfl] at H; exact H
    clear H
    have H := H1
    clear H1
    obtain rfl := Option.some.inj H
    go_wp2
    go_ret
    exact ⟨by first | rfl | (simp [errW_none, errW_some] <;> rfl) | (simp [*, errW_none, errW_some] <;> rfl), by repeat (first | (with_reducible first | exact HB.out | apply below_alloc | apply pw_below_drewN | apply below_drew1) | exact HB.out)⟩
   ·
    replace c6 := Bool.eq_false_iff.mpr c6
    subst c6
    have H1 : ((laws_mtTold.f kj3 a0 a1).bind fun bt183 => (laws_FnMtLimitOne.l0 kj3 a0 a1 a2 bt183.1 bt183.2 0 0)) = some r := by rw [if_neg (show ¬ (false = true) by decide)] at H; exact H
    clear H
    have H := H1
    clear H1
    replace H := Option.bind_eq_some_iff.mp H
    obtain ⟨⟨t183, t184⟩, A70, H⟩ := H
    replace H : (laws_FnMtLimitOne.l0 kj3 a0 a1 a2 t183 t184 0 0) = some r := H
    have A7 := Aside0.mk A70
    clear A70
    have H' := Aside0.mk H
    clear H
    go_wp2_with (first | ((with_reducible refine gate_callee (f := 14) rfl ?_); refine goesL_ (some 24) rfl rfl Tryd.func14 (by kernel_rfl) rfl #[.string a0, .string a1] rfl (by (try simp only [List.map_toArray, List.map_cons, List.map_nil]); first | done | rfl | (simp only [List.length_drop, List.length_take]; rfl)) ?_; (with_reducible refine (laws_mtTold.calls kj3 a0 a1 t183 t184 _ A7.out).mono ?_); rintro e w8 ⟨rfl, hb⟩; refine ⟨_, rfl, ?_⟩; have n0_ := Aside0.mk (below_step (by repeat (first | (with_reducible first | exact HB.out | apply below_alloc | apply pw_below_drewN | apply below_drew1) | exact HB.out)) hb); clear HB; have HB := n0_; clear n0_; (try clear hb); (try clear hb2); (try clear hk); (try clear hi)))
    try simp only [Act.put, List.setIfInBounds_toArray, List.set_cons_succ, List.set_cons_zero]
    go_loopg [9, 10] kj3 (fun kq v9 v10 w' => ∃ (x9_2 : Int) (x10_2 : Int), v9 = .int .i64 x9_2 ∧ v10 = .int .i64 x10_2 ∧ Aside0 (laws_FnMtLimitOne.l0 kq a0 a1 a2 t183 t184 x9_2 x10_2 = some r) ∧ Aside0 (kq ≤ kj3) ∧ Aside0 (Below w.heap.size w w'))
    case atStart => exact ⟨(0), (0), (by first | rfl | (simp; done) | (simp [nil_ne_, nil_eq_]; done) | (simp [*]; done)), (by first | rfl | (simp; done) | (simp [nil_ne_, nil_eq_]; done) | (simp [*]; done)), H', ⟨Nat.le_refl _⟩, ⟨by repeat (first | (with_reducible first | exact HB.out | apply below_alloc | apply pw_below_drewN | apply below_drew1) | exact HB.out)⟩⟩
    case round =>
     clear H'
     try clear c1
     try clear p2
     try clear c5
     try clear c5b0
     try clear c5b1
     try clear c6
     try clear p2
     obtain ⟨x9_2, x10_2, rfl, rfl, HA, HK2, HB⟩ := hrel
     cases gk with
     | zero => exact absurd HA.out (by simp [laws_FnMtLimitOne.l0])
     | succ k2 =>
      have H := HA.out
      clear HA
      simp only [laws_FnMtLimitOne.l0] at H
      by_cases c9 : x10_2 < (a1.size : Int)
      ·
       rw [if_pos c9] at H
       have c9b0 : decide (x10_2 < (a1.size : Int)) = true := decide_eq_true c9
       clear c9
       by_cases c10 : 0 ≤ x10_2
       ·
        rw [if_pos c10] at H
        have c10b0 : decide (0 ≤ x10_2) = true := decide_eq_true c10
        clear c10
        by_cases c12 : (bt a1 x10_2) = 42
        ·
         rw [if_pos c12] at H
         have c12b0 : ((bt a1 x10_2) == 42) = true := beq_iff_eq.mpr c12
         have c12b1 : ((bt a1 x10_2) != 42) = false := bne_eq_false_iff_eq.mpr c12
         clear c12
         have H' := Aside0.mk H
         clear H
         have p11 : 0 ≤ (x10_2 : Int) := of_decide_eq_true (by first | (with_reducible assumption) | assumption)
         have q11 : x10_2 < (a1.size : Int) := of_decide_eq_true (by first | (with_reducible assumption) | assumption)
         have hx11 := bt_at a1 x10_2
         replace p11 := eq_true p11
         replace q11 := eq_true q11
         go_wp2
         go_roundg k2
         case measure => have := HJ3.out; have := HK2.out; omega
         case rel => exact ⟨(wrap64 (x9_2 + 1)), (wrap64 (x10_2 + 1)), (by first | rfl | (simp; done) | (simp [nil_ne_, nil_eq_]; done) | (simp [*]; done)), (by first | rfl | (simp; done) | (simp [nil_ne_, nil_eq_]; done) | (simp [*]; done)), H', ⟨by have := HJ3.out; have := HK2.out; omega⟩, ⟨by repeat (first | (with_reducible first | exact HB.out | apply below_alloc | apply pw_below_drewN | apply below_drew1) | exact HB.out)⟩⟩
        ·
         rw [if_neg c12] at H
         have c12b0 : ((bt a1 x10_2) == 42) = false := beq_eq_false_iff_ne.mpr c12
         have c12b1 : ((bt a1 x10_2) != 42) = true := bne_iff_ne.mpr c12
         have H' := Aside0.mk H
         clear H
         have p11 : 0 ≤ (x10_2 : Int) := of_decide_eq_true (by first | (with_reducible assumption) | assumption)
         have q11 : x10_2 < (a1.size : Int) := of_decide_eq_true (by first | (with_reducible assumption) | assumption)
         have hx11 := bt_at a1 x10_2
         replace p11 := eq_true p11
         replace q11 := eq_true q11
         go_wp2
         go_roundg k2
         case measure => have := HJ3.out; have := HK2.out; omega
         case rel => exact ⟨(x9_2), (wrap64 (x10_2 + 1)), (by first | rfl | (simp; done) | (simp [nil_ne_, nil_eq_]; done) | (simp [*]; done)), (by first | rfl | (simp; done) | (simp [nil_ne_, nil_eq_]; done) | (simp [*]; done)), H', ⟨by have := HJ3.out; have := HK2.out; omega⟩, ⟨by repeat (first | (with_reducible first | exact HB.out | apply below_alloc | apply pw_below_drewN | apply below_drew1) | exact HB.out)⟩⟩
       ·
        rw [if_neg c10] at H
        exact absurd H (by simp)
      ·
       rw [if_neg c9] at H
       have c9b0 : decide (x10_2 < (a1.size : Int)) = false := decide_eq_false c9
       clear c9
       by_cases c13 : t184 = true
       ·
        subst c13
        have H1 : (if a0.toList = ([] : List UInt8) then (some true) else (if x9_2 > 1 then (some true) else (if a2 < 2 then (some true) else (if a2 > 1000000 then (some true) else ((impl_MtLimit.f k2 a0 a1 a2).bind fun bt185 => (if bt185.2 = true then (some false) else (some (bt185.1 == t183)))))))) = some r := by rw [if_pos rfl] at H; exact H
        clear H
        have H := H1
        clear H1
        by_cases c14 : a0.toList = ([] : List UInt8)
        ·
         rw [if_pos c14] at H
         have c14b0 : (a0.toList == ([] : List UInt8)) = true := beq_iff_eq.mpr c14
         have c14b1 : (a0.toList != ([] : List UInt8)) = false := bne_eq_false_iff_eq.mpr c14
         clear c14
         obtain rfl := Option.some.inj H
         go_wp2
         go_ret
         exact ⟨by first | rfl | (simp [errW_none, errW_some] <;> rfl) | (simp [*, errW_none, errW_some] <;> rfl), by repeat (first | (with_reducible first | exact HB.out | apply below_alloc | apply pw_below_drewN | apply below_drew1) | exact HB.out)⟩
        ·
         rw [if_neg c14] at H
         have c14b0 : (a0.toList == ([] : List UInt8)) = false := beq_eq_false_iff_ne.mpr c14
         have c14b1 : (a0.toList != ([] : List UInt8)) = true := bne_iff_ne.mpr c14
         by_cases c15 : x9_2 > 1
         ·
          rw [if_pos c15] at H
          have c15b0 : decide (1 < x9_2) = true := decide_eq_true c15
          clear c15
          obtain rfl := Option.some.inj H
          go_wp2
          go_ret
          exact ⟨by first | rfl | (simp [errW_none, errW_some] <;> rfl) | (simp [*, errW_none, errW_some] <;> rfl), by repeat (first | (with_reducible first | exact HB.out | apply below_alloc | apply pw_below_drewN | apply below_drew1) | exact HB.out)⟩
         ·
          rw [if_neg c15] at H
          have c15b0 : decide (1 < x9_2) = false := decide_eq_false c15
          clear c15
          by_cases c16 : a2 < 2
          ·
           rw [if_pos c16] at H
           have c16b0 : decide (a2 < 2) = true := decide_eq_true c16
           clear c16
           obtain rfl := Option.some.inj H
           go_wp2
           go_ret
           exact ⟨by first | rfl | (simp [errW_none, errW_some] <;> rfl) | (simp [*, errW_none, errW_some] <;> rfl), by repeat (first | (with_reducible first | exact HB.out | apply below_alloc | apply pw_below_drewN | apply below_drew1) | exact HB.out)⟩
          ·
           rw [if_neg c16] at H
           have c16b0 : decide (a2 < 2) = false := decide_eq_false c16
           clear c16
           by_cases c17 : a2 > 1000000
           ·
            rw [if_pos c17] at H
            have c17b0 : decide (1000000 < a2) = true := decide_eq_true c17
            clear c17
            obtain rfl := Option.some.inj H
            go_wp2
            go_ret
            exact ⟨by first | rfl | (simp [errW_none, errW_some] <;> rfl) | (simp [*, errW_none, errW_some] <;> rfl), by repeat (first | (with_reducible first | exact HB.out | apply below_alloc | apply pw_below_drewN | apply below_drew1) | exact HB.out)⟩
           ·
            rw [if_neg c17] at H
            have c17b0 : decide (1000000 < a2) = false := decide_eq_false c17
            clear c17
            replace H := Option.bind_eq_some_iff.mp H
            obtain ⟨⟨t185, t186⟩, A180, H⟩ := H
            replace H : (if t186 = true then (some false) else (some (t185 == t183))) = some r := H
            have A18 := Aside0.mk A180
            clear A180
            by_cases c19 : t186 = true
            ·
             subst c19
             have H1 : (some false) = some r := by rw [if_pos rfl] at H; exact H
             clear H
             have H := H1
             clear H1
             obtain rfl := Option.some.inj H
             go_wp2_with (first | ((with_reducible refine gate_callee (f := 15) rfl ?_); refine goesL_ (some 61) rfl rfl Tryd.func15 (by kernel_rfl) rfl #[.string a0, .string a1, .int .i64 a2] rfl (by (try simp only [List.map_toArray, List.map_cons, List.map_nil]); first | done | rfl | (simp only [List.length_drop, List.length_take]; rfl)) ?_; (with_reducible refine (impl_MtLimit.calls k2 a0 a1 a2 t185 true _ A18.out (HG.out.below (by repeat (first | (with_reducible first | exact HB.out | apply below_alloc | apply pw_below_drewN | apply below_drew1) | exact HB.out)))).mono ?_); rintro e w20 ⟨rfl, hb⟩; refine ⟨_, rfl, ?_⟩; have n0_ := Aside0.mk (below_step (by repeat (first | (with_reducible first | exact HB.out | apply below_alloc | apply pw_below_drewN | apply below_drew1) | exact HB.out)) hb); clear HB; have HB := n0_; clear n0_; (try clear hb); (try clear hb2); (try clear hk); (try clear hi)))
             go_ret
             exact ⟨by first | rfl | (simp [errW_none, errW_some] <;> rfl) | (simp [*, errW_none, errW_some] <;> rfl), by repeat (first | (with_reducible first | exact HB.out | apply below_alloc | apply pw_below_drewN | apply below_drew1) | exact HB.out)⟩
            ·
             replace c19 := Bool.eq_false_iff.mpr c19
             subst c19
             have H1 : (some (t185 == t183)) = some r := by rw [if_neg (show ¬ (false = true) by decide)] at H; exact H
             clear H
             have H := H1
             clear H1
             obtain rfl := Option.some.inj H
             go_wp2_with (first | ((with_reducible refine gate_callee (f := 15) rfl ?_); refine goesL_ (some 61) rfl rfl Tryd.func15 (by kernel_rfl) rfl #[.string a0, .string a1, .int .i64 a2] rfl (by (try simp only [List.map_toArray, List.map_cons, List.map_nil]); first | done | rfl | (simp only [List.length_drop, List.length_take]; rfl)) ?_; (with_reducible refine (impl_MtLimit.calls k2 a0 a1 a2 t185 false _ A18.out (HG.out.below (by repeat (first | (with_reducible first | exact HB.out | apply below_alloc | apply pw_below_drewN | apply below_drew1) | exact HB.out)))).mono ?_); rintro e w21 ⟨rfl, hb⟩; refine ⟨_, rfl, ?_⟩; have n0_ := Aside0.mk (below_step (by repeat (first | (with_reducible first | exact HB.out | apply below_alloc | apply pw_below_drewN | apply below_drew1) | exact HB.out)) hb); clear HB; have HB := n0_; clear n0_; (try clear hb); (try clear hb2); (try clear hk); (try clear hi)))
             go_ret
             exact ⟨by first | rfl | (simp [errW_none, errW_some] <;> rfl) | (simp [*, errW_none, errW_some] <;> rfl), by repeat (first | (with_reducible first | exact HB.out | apply below_alloc | apply pw_below_drewN | apply below_drew1) | exact HB.out)⟩
       ·
        replace c13 := Bool.eq_false_iff.mpr c13
        subst c13
        have H1 : (some true) = some r := by rw [if_neg (show ¬ (false = true) by decide)] at H; exact H
        clear H
        have H := H1
        clear H1
        obtain rfl := Option.some.inj H
        go_wp2
        go_ret
        exact ⟨by first | rfl | (simp [errW_none, errW_some] <;> rfl) | (simp [*, errW_none, errW_some] <;> rfl), by repeat (first | (with_reducible first | exact HB.out | apply below_alloc | apply pw_below_drewN | apply below_drew1) | exact HB.out)⟩

/-- THE ONE PURE STATEMENT of laws_FnMtLimitOne: yours. -/
def laws_FnMtLimitOne.Pure : Prop := ∀ (a0 : ByteArray) (a1 : ByteArray) (a2 : Int), a0.size ≤ 140737488351232 → a1.size ≤ 140737488351232 → (Lit.int .i64 a2).wf = true → ∃ k, laws_FnMtLimitOne.f k a0 a1 a2 = some true
theorem laws_FnMtLimitOne.walk (P : laws_FnMtLimitOne.Pure) (a0 : ByteArray) (a1 : ByteArray) (a2 : Int) (w : World) (w0 : a0.size ≤ 140737488351232) (w1 : a1.size ≤ 140737488351232) (w2 : (Lit.int .i64 a2).wf = true) (hG : Glob w) :
    Calls Tryd.prog 6 #[.string a0, .string a1, .int .i64 a2] w fun e w' => e = .returned (.bool true) ∧ Below w.heap.size w w' := by
  obtain ⟨k, h⟩ := P a0 a1 a2 w0 w1 w2
  refine (laws_FnMtLimitOne.calls k a0 a1 a2 true w h hG).mono ?_
  rintro e w' ⟨rfl, hd⟩
  exact ⟨rfl, hd⟩

end Go.Proofs.YtljmeaemonpkoaaDoor.PFnMtLimitOne
