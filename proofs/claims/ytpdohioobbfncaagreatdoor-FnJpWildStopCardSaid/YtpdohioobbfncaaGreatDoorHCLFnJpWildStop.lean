/- internalGetConfig without keys, told by hand; no condition beside those that each theorem states. -/
import Derived.Test.YtpdohioobbfncaaGreatDoorHSAFnJpWildStop
import Derived.Test.YtpdohioobbfncaaGreatDoorPFnJpWildStopx12
namespace Go.Proofs.YtpdohioobbfncaaGreatDoor.PFnJpWildStop
open Go.RowKit Go.Proofs.YtpdohioobbfncaaGreatDoorW.PrintWords Go.Proofs.YtpdohioobbfncaaGreatDoorW.PrintLast Go.Proofs.YtpdohioobbfncaaGreatDoorW.PrintMore
set_option linter.unusedVariables false
set_option linter.unusedSimpArgs false
/-- What is looked at: the text, and the configuration's own block. -/
structure Tq (b : Nat) (s : ByteArray) (w0 W : World) : Prop where
  below : Below w0.heap.size w0 W
  glob : Glob W
  text : Tx b s W
  cfg0 : W.cell? ⟨w0.heap.size, 0, none⟩ = some (.bool false)
  cfg1 : W.cell? ⟨w0.heap.size, 1, none⟩ = some (.bool false)
  cfg2 : W.cell? ⟨w0.heap.size, 2, none⟩ = some (.int .i64 0)
theorem Tq.more {b : Nat} {s : ByteArray} {w0 W W' : World} (h : Tq b s w0 W) (hb : Below W.heap.size W W') : Tq b s w0 W' :=
  ⟨below_step h.below hb, h.glob.below hb, h.text.more hb, keep_ h.cfg0 hb, keep_ h.cfg1 hb, keep_ h.cfg2 hb⟩
theorem Tq.drew {b : Nat} {s : ByteArray} {w0 W : World} (h : Tq b s w0 W) : Tq b s w0 W.drew := h.more (Below.refl _ _).drew
theorem Tq.cells {b : Nat} {s : ByteArray} {w0 W : World} (h : Tq b s w0 W) : W.cell? ⟨w0.heap.size, 0, none⟩ = some (.bool false) ∧ W.cell? ⟨w0.heap.size, 1, none⟩ = some (.bool false) ∧ W.cell? ⟨w0.heap.size, 2, none⟩ = some (.int .i64 0) ∧ Aside0 (Tq b s w0 W) := ⟨h.cfg0, h.cfg1, h.cfg2, ⟨h⟩⟩
theorem Tq.start {b : Nat} {s : ByteArray} {w0 : World} (hG : Glob w0) (ht : Tx b s w0) (t1 : TypeId) : Tq b s w0 (w0.alloc (.cells #[.bool false, .bool false, .int .i64 0] t1)) := by
  have h1 := below_alloc_ w0 (.cells #[.bool false, .bool false, .int .i64 0] t1)
  have k1 := heap_alloc_new w0 (.cells #[.bool false, .bool false, .int .i64 0] t1)
  exact ⟨h1, hG.below h1, ht.more h1, (blk_cell k1 0).trans rfl, (blk_cell k1 1).trans rfl, (blk_cell k1 2).trans rfl⟩
/-- nextTokenConfig, from a place on. -/
theorem next_calls {s : ByteArray} {e a x kn : Nat} (h : nTC_.f kn false false 0 (win s a e) = some ((x - a : Nat) : Int)) (b c : Nat) (W : World) (he : e ≤ s.size) (hz : s.size ≤ 2147483647) (hc : e - a ≤ c) (hT : Tx b s W) :
    Calls Tryz.prog 48 #[cfgV, .slice (some ⟨b, a, none⟩) (e - a) c] W fun e' w' => e' = .returned (.int .i64 ((x - a : Nat) : Int)) ∧ Below W.heap.size W w' := by
  have g := nTC_.calls kn false false 0 (some ⟨b, a, none⟩) c (win s a e) ((x - a : Nat) : Int) W ((hT.hd a e he).reads (by rw [win_len]; omega)) (by rw [win_len]; exact hc) h
  rwa [win_len] at g
/-- A value as Get gives it: of a string what stands between its marks. -/
def vsl (b x y : Nat) (kd : Int) : Value := if kd = 1 then .slice (some ⟨b, x + 1, none⟩) (y - x - 2) (y - x - 2) else .slice (some ⟨b, x, none⟩) (y - x) (y - x)
/-- What Get without keys comes to, from a place on. -/
structure GV (s : ByteArray) (e a x y : Nat) (kd : Int) : Prop where
  nt : ∃ k, nTC_.f k false false 0 (win s a e) = some ((x - a : Nat) : Int)
  ax : a ≤ x
  xy : x < y
  ye : y ≤ e
  tv : TV s e x y kd
theorem GV.two {s : ByteArray} {e a x y : Nat} (h : GV s e a x y 1) : x + 2 ≤ y := by
  cases h.tv
  assumption
set_option maxHeartbeats 2000000 in
set_option maxRecDepth 100000 in
/-- A value that is no string. -/
theorem get0_other {s : ByteArray} {e a x y : Nat} {kd : Int} (h : GV s e a x y kd) (hk : kd ≠ 1) (b c kc : Nat) (kA : Option Addr) (w : World) (he : e ≤ s.size) (hz : s.size ≤ 2147483647) (hc : e - a ≤ c) (hG : Glob w) (hT : Tx b s w) :
    Calls Tryz.prog 51 #[cfgV, .slice (some ⟨b, a, none⟩) (e - a) c, .slice kA 0 kc] w fun e' w' => e' = .returned (.tuple #[.slice (some ⟨b, x, none⟩) (y - x) (y - x), .int .i64 kd, .int .i64 ((x - a : Nat) : Int), .int .i64 ((y - a : Nat) : Int), .nilIface]) ∧ Below w.heap.size w w' := by
  have HW := Aside0.mk (Tq.start hG hT 72)
  obtain ⟨kn, hnt⟩ := h.nt
  have ax := h.ax
  have xy := h.xy
  have ye := h.ye
  have HK2 := Aside0.mk (show ∀ W, Tq b s w W → _ from fun W hW => next_calls hnt b c W he hz hc hW.text)
  have HK3 := Aside0.mk (show ∀ W, Tq b s w W → _ from fun W hW => type_calls h.tv b a c W ax xy ye he hz hc hW.glob hW.text)
  obtain ⟨n, hn⟩ : ∃ n, e - a = n := ⟨_, rfl⟩
  obtain ⟨o, ho⟩ : ∃ o, x - a = o := ⟨_, rfl⟩
  obtain ⟨z, hzz⟩ : ∃ z, y - a = z := ⟨_, rfl⟩
  obtain ⟨m, hm⟩ : ∃ m, y - x = m := ⟨_, rfl⟩
  rw [hn, ho] at HK2
  rw [hn, ho, hzz, hm] at HK3
  rw [hn, ho, hzz, hm]
  have m0 : (o : Int) ≠ -1 := by omega
  have m1 : ((o : Int) == -1) = false := beq_eq_false_iff_ne.2 m0
  have m2 : IntKind.i64.wrap (o : Int) = o := by rw [IntKind.wrap_i64]; omega
  have pm : m ≤ c - o := by omega
  have q0 : (m : Int) ≤ ((c - o : Nat) : Int) := by omega
  have kd1 : (kd == 1) = false := beq_eq_false_iff_ne.2 hk
  clear hnt hT hG hn ho hzz hm hk h ax xy ye he hz hc
  dsimp only [cfgV]
  go_enter Tryz.func51, Tryz.ntmps51
  have g1 := HW.out.cfg0
  have g2 := HW.out.cfg1
  have g3 := HW.out.cfg2
  go_wp2
  go_region_held3 (fun w' => w'.cell? ⟨w.heap.size, 0, none⟩ = some (.bool false) ∧ w'.cell? ⟨w.heap.size, 1, none⟩ = some (.bool false) ∧ w'.cell? ⟨w.heap.size, 2, none⟩ = some (.int .i64 0) ∧ Aside0 (Tq b s w w'))
    (first | exact HW.out.cells | exact HW.out.drew.cells | exact HW2.out.cells | exact HW2.out.drew.cells)
    (first | (go_at_call 48; (with_reducible refine (HK2.out _ HW.out.drew).mono ?_); rintro e' w2 ⟨rfl, HB⟩; have HW2 := Aside0.mk (HW.out.drew.more HB); clear HB))
  clear g1 g2 g3
  have g1 := HW2.out.cfg0
  have g2 := HW2.out.cfg1
  have g3 := HW2.out.cfg2
  go_wp2_with (go_at_call 70; (with_reducible refine (HK3.out _ HW2.out).mono ?_); rintro e' w3 ⟨rfl, HB⟩; have HW3 := Aside0.mk (HW2.out.more HB); clear HB)
  refine bodyPost_ret (results_tmp5 rfl _ _ _) rfl ?_
  exact ⟨by simp, HW3.out.below⟩
set_option maxHeartbeats 2000000 in
set_option maxRecDepth 100000 in
/-- A string. -/
theorem get0_str {s : ByteArray} {e a x y : Nat} (h : GV s e a x y 1) (b c kc : Nat) (kA : Option Addr) (w : World) (he : e ≤ s.size) (hz : s.size ≤ 2147483647) (hc : e - a ≤ c) (hG : Glob w) (hT : Tx b s w) :
    Calls Tryz.prog 51 #[cfgV, .slice (some ⟨b, a, none⟩) (e - a) c, .slice kA 0 kc] w fun e' w' => e' = .returned (.tuple #[.slice (some ⟨b, x + 1, none⟩) (y - x - 2) (y - x - 2), .int .i64 1, .int .i64 ((x - a : Nat) : Int), .int .i64 ((y - a : Nat) : Int), .nilIface]) ∧ Below w.heap.size w w' := by
  have HW := Aside0.mk (Tq.start hG hT 72)
  have h2 := h.two
  obtain ⟨kn, hnt⟩ := h.nt
  have ax := h.ax
  have xy := h.xy
  have ye := h.ye
  have HK2 := Aside0.mk (show ∀ W, Tq b s w W → _ from fun W hW => next_calls hnt b c W he hz hc hW.text)
  have HK3 := Aside0.mk (show ∀ W, Tq b s w W → _ from fun W hW => type_calls h.tv b a c W ax xy ye he hz hc hW.glob hW.text)
  obtain ⟨n, hn⟩ : ∃ n, e - a = n := ⟨_, rfl⟩
  obtain ⟨o, ho⟩ : ∃ o, x - a = o := ⟨_, rfl⟩
  obtain ⟨z, hzz⟩ : ∃ z, y - a = z := ⟨_, rfl⟩
  obtain ⟨m, hm⟩ : ∃ m, y - x - 2 = m := ⟨_, rfl⟩
  have hm2 : y - x = m + 2 := by omega
  rw [hn, ho] at HK2
  rw [hn, ho, hzz, hm2] at HK3
  rw [hn, ho, hzz, hm]
  have m0 : (o : Int) ≠ -1 := by omega
  have m1 : ((o : Int) == -1) = false := beq_eq_false_iff_ne.2 m0
  have m2 : IntKind.i64.wrap (o : Int) = o := by rw [IntKind.wrap_i64]; omega
  have m3 : IntKind.i64.wrap (((m + 2 : Nat) : Int) - 1) = ((m + 1 : Nat) : Int) := by rw [IntKind.wrap_i64]; omega
  have m3' : IntKind.i64.wrap ((m : Int) + 2 - 1) = ((m + 1 : Nat) : Int) := by rw [IntKind.wrap_i64]; omega
  have pm : m ≤ c - o - 1 := by omega
  have q0 : (m : Int) ≤ ((c - o - 1 : Nat) : Int) := by omega
  have q1 : (m : Int) + 1 ≤ ((c - o : Nat) : Int) := by omega
  have q2 : m + 1 ≤ c - o := by omega
  have q3 : c - o ≠ 1 := by omega
  clear hnt hT hG hn ho hzz hm h ax xy ye he hz hc h2 hm2
  dsimp only [cfgV]
  go_enter Tryz.func51, Tryz.ntmps51
  have g1 := HW.out.cfg0
  have g2 := HW.out.cfg1
  have g3 := HW.out.cfg2
  go_wp2
  go_region_held3 (fun w' => w'.cell? ⟨w.heap.size, 0, none⟩ = some (.bool false) ∧ w'.cell? ⟨w.heap.size, 1, none⟩ = some (.bool false) ∧ w'.cell? ⟨w.heap.size, 2, none⟩ = some (.int .i64 0) ∧ Aside0 (Tq b s w w'))
    (first | exact HW.out.cells | exact HW.out.drew.cells | exact HW2.out.cells | exact HW2.out.drew.cells)
    (first | (go_at_call 48; (with_reducible refine (HK2.out _ HW.out.drew).mono ?_); rintro e' w2 ⟨rfl, HB⟩; have HW2 := Aside0.mk (HW.out.drew.more HB); clear HB))
  clear g1 g2 g3
  have g1 := HW2.out.cfg0
  have g2 := HW2.out.cfg1
  have g3 := HW2.out.cfg2
  go_wp2_with (go_at_call 70; (with_reducible refine (HK3.out _ HW2.out).mono ?_); rintro e' w3 ⟨rfl, HB⟩; have HW3 := Aside0.mk (HW2.out.more HB); clear HB)
  refine bodyPost_ret (results_tmp5 rfl _ _ _) rfl ?_
  exact ⟨by simp, HW3.out.below⟩
/-- Get without keys. -/
theorem get0_calls {s : ByteArray} {e a x y : Nat} {kd : Int} (h : GV s e a x y kd) (b c kc : Nat) (kA : Option Addr) (w : World) (he : e ≤ s.size) (hz : s.size ≤ 2147483647) (hc : e - a ≤ c) (hG : Glob w) (hT : Tx b s w) :
    Calls Tryz.prog 51 #[cfgV, .slice (some ⟨b, a, none⟩) (e - a) c, .slice kA 0 kc] w fun e' w' => e' = .returned (.tuple #[vsl b x y kd, .int .i64 kd, .int .i64 ((x - a : Nat) : Int), .int .i64 ((y - a : Nat) : Int), .nilIface]) ∧ Below w.heap.size w w' := by
  unfold vsl
  by_cases hk : kd = 1
  · subst hk
    rw [if_pos rfl]
    exact get0_str h b c kc kA w he hz hc hG hT
  · rw [if_neg hk]
    exact get0_other h hk b c kc kA w he hz hc hG hT
end Go.Proofs.YtpdohioobbfncaaGreatDoor.PFnJpWildStop/- Config.Get without keys; no condition beside those that each theorem states. -/
namespace Go.Proofs.YtpdohioobbfncaaGreatDoor.PFnJpWildStop
open Go.RowKit Go.Proofs.YtpdohioobbfncaaGreatDoorW.PrintWords Go.Proofs.YtpdohioobbfncaaGreatDoorW.PrintLast Go.Proofs.YtpdohioobbfncaaGreatDoorW.PrintMore
set_option linter.unusedVariables false
set_option linter.unusedSimpArgs false
/-- What is looked at: the text, and the configuration's own block. -/
theorem vsl_slice (b x y : Nat) (kd : Int) : ∃ vx vl : Nat, vsl b x y kd = .slice (some ⟨b, vx, none⟩) vl vl ∧ vl ≤ y - x ∧ (kd = 1 → vx = x + 1 ∧ vl = y - x - 2) ∧ (kd ≠ 1 → vx = x ∧ vl = y - x) := by
  unfold vsl
  by_cases h : kd = 1
  · exact ⟨x + 1, y - x - 2, if_pos h, by omega, fun _ => ⟨rfl, rfl⟩, fun k => absurd h k⟩
  · exact ⟨x, y - x, if_neg h, by omega, fun k => absurd k h, fun _ => ⟨rfl, rfl⟩⟩
set_option maxHeartbeats 2000000 in
set_option maxRecDepth 100000 in
theorem cget_calls {s : ByteArray} {e a x y : Nat} {kd : Int} (h : GV s e a x y kd) (b c kc : Nat) (kA : Option Addr) (w : World) (he : e ≤ s.size) (hz : s.size ≤ 2147483647) (hc : e - a ≤ c) (hG : Glob w) (hT : Tx b s w) :
    Calls Tryz.prog 50 #[cfgV, .slice (some ⟨b, a, none⟩) (e - a) c, .slice kA 0 kc] w fun e' w' => e' = .returned (.tuple #[vsl b x y kd, .int .i64 kd, .int .i64 ((y - a : Nat) : Int), .nilIface]) ∧ Below w.heap.size w w' := by
  have HW := Aside0.mk (Tq.start hG hT 72)
  have HK := Aside0.mk (show ∀ W, Tq b s w W → _ from fun W hW => get0_calls h b c kc kA W he hz hc hW.glob hW.text)
  obtain ⟨n, hn⟩ : ∃ n, e - a = n := ⟨_, rfl⟩
  obtain ⟨o, ho⟩ : ∃ o, x - a = o := ⟨_, rfl⟩
  obtain ⟨z, hzz⟩ : ∃ z, y - a = z := ⟨_, rfl⟩
  obtain ⟨v, hv⟩ : ∃ v, vsl b x y kd = v := ⟨_, rfl⟩
  rw [hn, ho, hzz, hv] at HK
  rw [hn, hzz, hv]
  clear hn ho hzz hv hT hG h he hz hc
  dsimp only [cfgV]
  go_enter Tryz.func50, Tryz.ntmps50
  have g1 := HW.out.cfg0
  have g2 := HW.out.cfg1
  have g3 := HW.out.cfg2
  go_wp2_with (go_at_call 51; (with_reducible refine (HK.out _ HW.out).mono ?_); rintro e' w3 ⟨rfl, HB⟩; have HW3 := Aside0.mk (HW.out.more HB); clear HB)
  refine bodyPost_ret (results_tmp4 rfl _ _ _) rfl ?_
  exact ⟨by simp, HW3.out.below⟩
end Go.Proofs.YtpdohioobbfncaaGreatDoor.PFnJpWildStop/- arrayEachConfig without keys, told by hand: what it calls back with; no condition beside those that each theorem states. -/
namespace Go.Proofs.YtpdohioobbfncaaGreatDoor.PFnJpWildStop
open Go.RowKit Go.Proofs.YtpdohioobbfncaaGreatDoorW.PrintWords Go.Proofs.YtpdohioobbfncaaGreatDoorW.PrintLast Go.Proofs.YtpdohioobbfncaaGreatDoorW.PrintMore
set_option linter.unusedVariables false
set_option linter.unusedSimpArgs false
/-- nextTokenConfig, from a place to a place. -/
def NT (s : ByteArray) (e a z : Nat) : Prop := ∃ k, nTC_.f k false false 0 (win s a e) = some ((z - a : Nat) : Int)
/-- The elements of an array, from the place of one on, up to its closing byte. -/
inductive EL (s : ByteArray) (e : Nat) : Nat → List (Nat × Nat × Int) → Nat → Prop
  | last {a x y z : Nat} {kd : Int} (h : GV s e a x y kd) (nt : NT s e y z) (yz : y ≤ z) (ze : z < e) (hz : bt s (z : Int) = 93) : EL s e a [(x, y, kd)] z
  | more {a x y z f : Nat} {kd : Int} {r : List (Nat × Nat × Int)} (h : GV s e a x y kd) (nt : NT s e y z) (yz : y ≤ z) (ze : z < e) (hz : bt s (z : Int) = 44) (t : EL s e (z + 1) r f) : EL s e a ((x, y, kd) :: r) f
/-- An array at a place: its elements, its closing byte's place. -/
structure AE (s : ByteArray) (e p : Nat) (els : List (Nat × Nat × Int)) (f : Nat) : Prop where
  n0 : NT s e p p
  pe : p < e
  o : bt s (p : Int) = 91
  q : ∃ q, NT s e (p + 1) q ∧ p + 1 ≤ q ∧ q < e ∧ ((bt s (q : Int) = 93 ∧ els = [] ∧ f = q) ∨ (bt s (q : Int) ≠ 93 ∧ EL s e q els f))
/-- What is called back with of an element. -/
def cbArgs (b p : Nat) (el : Nat × Nat × Int) : Array Value := #[vsl b el.1 el.2.1 el.2.2, .int .i64 el.2.2, .int .i64 (if el.2.2 = 1 then ((el.1 + 2 - p : Nat) : Int) else ((el.1 - p : Nat) : Int)), .nilIface]
/-- What is looked at: the configuration's own block, and what the call back may write. -/
structure Te (P : Nat → Prop) (w0 W : World) : Prop where
  bes : Bes P w0 W
  lt : w0.heap.size < W.heap.size
  cfg0 : W.cell? ⟨w0.heap.size, 0, none⟩ = some (.bool false)
  cfg1 : W.cell? ⟨w0.heap.size, 1, none⟩ = some (.bool false)
  cfg2 : W.cell? ⟨w0.heap.size, 2, none⟩ = some (.int .i64 0)
theorem Te.more {P : Nat → Prop} {w0 W W' : World} (h : Te P w0 W) (hb : Below W.heap.size W W') : Te P w0 W' :=
  ⟨h.bes.step hb, Nat.lt_of_lt_of_le h.lt hb.size, keep_ h.cfg0 hb, keep_ h.cfg1 hb, keep_ h.cfg2 hb⟩
theorem Te.beside {P : Nat → Prop} {w0 W W' : World} (h : Te P w0 W) (hP : ¬ P w0.heap.size) (hb : Bes P W W') : Te P w0 W' :=
  ⟨h.bes.trans hb, Nat.lt_of_lt_of_le h.lt hb.size, hb.cell hP h.cfg0, hb.cell hP h.cfg1, hb.cell hP h.cfg2⟩
theorem Te.drew {P : Nat → Prop} {w0 W : World} (h : Te P w0 W) : Te P w0 W.drew := h.more (Below.refl _ _).drew
theorem Te.start (P : Nat → Prop) (w0 : World) (t1 : TypeId) : Te P w0 (w0.alloc (.cells #[.bool false, .bool false, .int .i64 0] t1)) := by
  have h1 := below_alloc_ w0 (.cells #[.bool false, .bool false, .int .i64 0] t1)
  have k1 := heap_alloc_new w0 (.cells #[.bool false, .bool false, .int .i64 0] t1)
  exact ⟨Bes.of_below h1, by rw [Go.Deep.nblk_alloc]; omega, (blk_cell k1 0).trans rfl, (blk_cell k1 1).trans rfl, (blk_cell k1 2).trans rfl⟩
/-- Both: the blocks and what the call back keeps. -/
structure Tj (P : Nat → Prop) (I : Nat → World → Prop) (j : Nat) (w0 W : World) : Prop where
  te : Te P w0 W
  inv : I j W
theorem Tj.more {P : Nat → Prop} {I : Nat → World → Prop} {j : Nat} {w0 W W' : World} (h : Tj P I j w0 W) (hI : ∀ j W W', I j W → Below W.heap.size W W' → I j W') (hb : Below W.heap.size W W') : Tj P I j w0 W' := ⟨h.te.more hb, hI _ _ _ h.inv hb⟩
theorem Tj.drew {P : Nat → Prop} {I : Nat → World → Prop} {j : Nat} {w0 W : World} (h : Tj P I j w0 W) (hI : ∀ j W W', I j W → Below W.heap.size W W' → I j W') : Tj P I j w0 W.drew := h.more hI (Below.refl _ _).drew
theorem Tj.cells {P : Nat → Prop} {I : Nat → World → Prop} {j : Nat} {w0 W : World} (h : Tj P I j w0 W) : W.cell? ⟨w0.heap.size, 0, none⟩ = some (.bool false) ∧ W.cell? ⟨w0.heap.size, 1, none⟩ = some (.bool false) ∧ W.cell? ⟨w0.heap.size, 2, none⟩ = some (.int .i64 0) ∧ Aside0 (Tj P I j w0 W) := ⟨h.te.cfg0, h.te.cfg1, h.te.cfg2, ⟨h⟩⟩
/-- Where the walk over the elements stands. -/
structure Lp (s : ByteArray) (e p n f : Nat) (els : List (Nat × Nat × Int)) (P : Nat → Prop) (I : Nat → World → Prop) (o j : Nat) (w0 W : World) : Prop where
  tj : Tj P I j w0 W
  el : ∃ r, els.drop j = r ∧ EL s e (p + o) r f
  lt : o < n
theorem Lp.split {s : ByteArray} {e p n f : Nat} {els : List (Nat × Nat × Int)} {P : Nat → Prop} {I : Nat → World → Prop} {o j : Nat} {w0 W : World} (h : Lp s e p n f els P I o j w0 W) :
    ∃ (x y z : Nat) (kd : Int) (hj : j < els.length), GV s e (p + o) x y kd ∧ NT s e y z ∧ y ≤ z ∧ z < e ∧ els[j] = (x, y, kd) ∧ ((bt s (z : Int) = 93 ∧ j + 1 = els.length ∧ f = z) ∨ (bt s (z : Int) = 44 ∧ ∃ r, els.drop (j + 1) = r ∧ EL s e (z + 1) r f)) := by
  obtain ⟨r, hr, hel⟩ := h.el
  have key : ∀ (q : Nat × Nat × Int) (r2 : List (Nat × Nat × Int)), r = q :: r2 → ∃ hj : j < els.length, els[j] = q ∧ els.drop (j + 1) = r2 := by
    rintro q r2 rfl
    have hj : j < els.length := by
      apply Nat.lt_of_not_le
      intro hle
      rw [List.drop_eq_nil_of_le hle] at hr
      cases hr
    rw [List.drop_eq_getElem_cons hj] at hr
    exact ⟨hj, (List.cons.inj hr).1, (List.cons.inj hr).2⟩
  cases hel with
  | last hg nt yz ze hz =>
    obtain ⟨hj, h1, h2⟩ := key _ _ rfl
    refine ⟨_, _, _, _, hj, hg, nt, yz, ze, h1, .inl ⟨hz, ?_, rfl⟩⟩
    have := congrArg List.length h2
    rw [List.length_drop] at this
    simp at this
    omega
  | more hg nt yz ze hz t =>
    obtain ⟨hj, h1, h2⟩ := key _ _ rfl
    exact ⟨_, _, _, _, hj, hg, nt, yz, ze, h1, .inr ⟨hz, _, h2, t⟩⟩
set_option maxHeartbeats 8000000 in
set_option maxRecDepth 100000 in
theorem each_calls {s : ByteArray} {e p : Nat} {els : List (Nat × Nat × Int)} {f : Nat} (h : AE s e p els f) (kf : Nat) (cap : Array Value) (b c : Nat) (w : World) (P : Nat → Prop) (I : Nat → World → Prop)
    (he : e ≤ s.size) (hz : s.size ≤ 2147483647) (hc : e - p ≤ c) (hkf : ∀ (args : Array Value) (W : World), (callFunc kf args).run Tryz.prog W = .ok (.enter kf args) W) (hP : ¬ P w.heap.size) (hGT : ∀ W, Bes P w W → Glob W ∧ Tx b s W)
    (hIB : ∀ j W W', I j W → Below W.heap.size W W' → I j W') (h0 : I 0 w)
    (hcb : ∀ j (hj : j < els.length) W, I j W → Bes P w W → Calls Tryz.prog kf (cbArgs b p els[j] ++ cap) W fun e' W' => e' = .returned (.tuple #[]) ∧ I (j + 1) W' ∧ Bes P W W') :
    Calls Tryz.prog 33 #[cfgV, .slice (some ⟨b, p, none⟩) (e - p) c, .func (.func kf) #[] cap, .slice none 0 0] w fun e' w' => e' = .returned (.tuple #[.int .i64 ((f - p : Nat) : Int), .nilIface]) ∧ I els.length w' ∧ Bes P w w' := by
  have HT := Aside0.mk hGT
  have HP := Aside0.mk hP
  have HKF := Aside0.mk hkf
  have nx : ∀ a z, NT s e a z → ∀ W, Te P w W → ∀ c', e - a ≤ c' → Calls Tryz.prog 48 #[cfgV, .slice (some ⟨b, a, none⟩) (e - a) c'] W fun e' w' => e' = .returned (.int .i64 ((z - a : Nat) : Int)) ∧ Below W.heap.size W w' := by
    rintro a z ⟨k, hk⟩ W hW c' hc'
    exact next_calls hk b c' W he hz hc' (HT.out W hW.bes).2
  have HNX := Aside0.mk nx
  have byt : ∀ q : Nat, q < e → ∀ W, Te P w W → W.cell? ⟨b, q, none⟩ = some (.int .u8 (bt s (q : Int))) := fun q hq W hW => (HT.out W hW.bes).2.cell q (by omega)
  have HBT := Aside0.mk byt
  have get : ∀ a x y kd, GV s e a x y kd → ∀ W, Te P w W → ∀ c', e - a ≤ c' → Calls Tryz.prog 50 #[cfgV, .slice (some ⟨b, a, none⟩) (e - a) c', .slice none 0 0] W fun e' w' => e' = .returned (.tuple #[vsl b x y kd, .int .i64 kd, .int .i64 ((y - a : Nat) : Int), .nilIface]) ∧ Below W.heap.size W w' :=
    fun a x y kd hg W hW c' hc' => cget_calls hg b c' 0 none W he hz hc' (HT.out W hW.bes).1 (HT.out W hW.bes).2
  have HGV := Aside0.mk get
  obtain ⟨n0, pe, ho, q, nq, hq1, hq2, hel⟩ := h
  obtain ⟨o, rfl⟩ : ∃ o, q = p + (o + 1) := ⟨q - p - 1, by omega⟩
  obtain ⟨n, hn⟩ : ∃ n, e - p = n := ⟨_, rfl⟩
  have K1 := Aside0.mk (show ∀ W, Te P w W → _ from fun W hW => HNX.out p p n0 W hW c hc)
  rw [hn, Nat.sub_self, show ((0 : Nat) : Int) = 0 from rfl] at K1
  have K2 := Aside0.mk (show ∀ W, Te P w W → _ from fun W hW => HNX.out (p + 1) (p + (o + 1)) nq W hW (c - 1) (by omega))
  rw [show e - (p + 1) = n - 1 by omega, show p + (o + 1) - (p + 1) = o by omega] at K2
  have B0 := Aside0.mk (show ∀ W, Te P w W → _ from fun W hW => HBT.out p pe W hW)
  rw [ho] at B0
  have B1 := Aside0.mk (show ∀ W, Te P w W → _ from fun W hW => HBT.out (p + (o + 1)) hq2 W hW)
  have HIB := Aside0.mk hIB
  have HW0 := Aside0.mk (show Tj P I 0 w (w.alloc (.cells #[.bool false, .bool false, .int .i64 0] 72)) from ⟨Te.start P w _, hIB 0 _ _ h0 (below_alloc_ _ _)⟩)
  have HEL := Aside0.mk hel
  have HCB := Aside0.mk hcb
  have HN := Aside0.mk (And.intro hn (And.intro he (And.intro hz hc)))
  have n1 : (1 : Int) ≤ (n : Int) := by omega
  have n1' : 1 ≤ n := by omega
  have n2 : (0 : Int) < (n : Int) := by omega
  have n2' : 0 < n := by omega
  have n2'' : n ≠ 0 := by omega
  have n3 : c ≠ 1 := by omega
  have n4 : ((o : Int) == -1) = false := beq_eq_false_iff_ne.2 (by omega)
  have n5 : IntKind.i64.wrap (1 + (o : Int)) = ((o + 1 : Nat) : Int) := by rw [IntKind.wrap_i64]; omega
  have n6 : ((o + 1 : Nat) : Int) < (n : Int) := by omega
  have n6' : (o : Int) + 1 < (n : Int) := by omega
  have n6'' : o + 1 < n := by omega
  have n7 : (((o + 1 : Nat) : Int)).toNat = o + 1 := by omega
  have n7' : ((o : Int) + 1).toNat = o + 1 := by omega
  have n8 : (0 : Int) ≤ (o : Int) + 1 := by omega
  clear hkf he hz hc hP hGT hIB h0 hcb hel nx byt get n0 pe ho nq hq1 hq2 HNX HBT HGV
  rw [hn]
  clear hn
  dsimp only [cfgV]
  go_enter Tryz.func33, Tryz.ntmps33
  have g1 := HW0.out.te.cfg0
  have g2 := HW0.out.te.cfg1
  have g3 := HW0.out.te.cfg2
  have x0 := B0.out _ HW0.out.te
  go_wp2_with (go_at_call 48; (with_reducible refine (K1.out _ HW0.out.te).mono ?_); rintro e' w1 ⟨rfl, HB⟩; have HW1 := Aside0.mk (show Tj P I 0 w w1 from ⟨HW0.out.te.more HB, HIB.out _ _ _ HW0.out.inv HB⟩); have x0 := B0.out _ HW1.out.te; have g1 := HW1.out.te.cfg0; have g2 := HW1.out.te.cfg1; have g3 := HW1.out.te.cfg2; clear HB)
  go_region_held3 (fun w' => w'.cell? ⟨w.heap.size, 0, none⟩ = some (.bool false) ∧ w'.cell? ⟨w.heap.size, 1, none⟩ = some (.bool false) ∧ w'.cell? ⟨w.heap.size, 2, none⟩ = some (.int .i64 0) ∧ Aside0 (Tj P I 0 w w'))
    (first | exact HW1.out.cells | exact (HW1.out.drew HIB.out).cells | exact HW2.out.cells | exact (HW2.out.drew HIB.out).cells)
    (first | (go_at_call 48; (with_reducible refine (K2.out _ (HW1.out.drew HIB.out).te).mono ?_); rintro e' w2 ⟨rfl, HB⟩; have HW2 := Aside0.mk ((HW1.out.drew HIB.out).more HIB.out HB); clear HB))
  clear g1 g2 g3 x0
  have g1 := HW2.out.te.cfg0
  have g2 := HW2.out.te.cfg1
  have g3 := HW2.out.te.cfg2
  have x1 := B1.out _ HW2.out.te
  rcases HEL.out with ⟨h93, rfl, rfl⟩ | ⟨h93, hEL⟩
  · rw [h93] at x1
    clear h93
    go_wp2
    go_ret2
    exact ⟨by simp, HW2.out.inv, HW2.out.te.bes⟩
  · have c93 : (bt s ((p + (o + 1) : Nat) : Int) == 93) = false := beq_eq_false_iff_ne.2 h93
    obtain ⟨cz, hcz⟩ : ∃ cz, bt s ((p + (o + 1) : Nat) : Int) = cz := ⟨_, rfl⟩
    rw [hcz] at c93 x1
    have HR0 := Aside0.mk (show Lp s e p n f els P I (o + 1) 0 w w2 from ⟨HW2.out, ⟨els, rfl, hEL⟩, by omega⟩)
    clear h93 hcz hEL HEL
    go_wp2
    go_loopw [8] (fun vo wr => ∃ o j : Nat, vo = .int .i64 ((o : Nat) : Int) ∧ Aside0 (Lp s e p n f els P I o j w wr)) (fun vo _ => n - (intOf vo).toNat)
    case atStart => exact ⟨o + 1, 0, rfl, HR0⟩
    case round =>
      clear HR0 HW0 HW1 HW2 K1 K2 B0 B1 n4 n5 n6 n6' n6'' n7 n7' n8 c93 x0 x1
      obtain ⟨o1, j, rfl, HR⟩ := hrel
      obtain ⟨x, y, z, kd, hj, hg, nt, yz, ze, hel, hcase⟩ := HR.out.split
      have hax := hg.ax
      have hxy := hg.xy
      obtain ⟨hn, he, hz, hc⟩ := HN.out
      have ho1 := HR.out.lt
      obtain ⟨yo, rfl⟩ : ∃ yo, y = p + (o1 + yo) := ⟨y - p - o1, by omega⟩
      obtain ⟨zo, rfl⟩ : ∃ zo, z = p + (o1 + yo + zo) := ⟨z - p - o1 - yo, by omega⟩
      obtain ⟨vx, vl, hv, hv1, hv2, hv3⟩ := vsl_slice b x (p + (o1 + yo)) kd
      have K3 := Aside0.mk (show ∀ W, Tj P I j w W → _ from fun W hW => cget_calls hg b (c - o1) 0 none W he hz (by omega) (HT.out W hW.te.bes).1 (HT.out W hW.te.bes).2)
      rw [hv, show e - (p + o1) = n - o1 by omega, show p + (o1 + yo) - (p + o1) = yo by omega] at K3
      obtain ⟨kn, hkn⟩ := nt
      have K4 := Aside0.mk (show ∀ W, Tj P I (j + 1) w W → _ from fun W hW => next_calls hkn b (c - (o1 + yo)) W he hz (by omega) (HT.out W hW.te.bes).2)
      rw [show e - (p + (o1 + yo)) = n - (o1 + yo) by omega, show p + (o1 + yo + zo) - (p + (o1 + yo)) = zo by omega] at K4
      have B4 := Aside0.mk (show ∀ W, Tj P I (j + 1) w W → _ from fun W hW => (HT.out W hW.te.bes).2.cell (p + (o1 + yo + zo)) (by omega))
      obtain ⟨off, hoff⟩ : ∃ off : Nat, (o1 : Int) + (yo : Int) - (vl : Int) = (off : Int) ∧ (if kd = 1 then ((x + 2 - p : Nat) : Int) else ((x - p : Nat) : Int)) = (off : Int) := by
        by_cases hk : kd = 1
        · have := hv2 hk
          have h2 : x + 2 ≤ p + (o1 + yo) := by subst hk; exact hg.two
          exact ⟨x + 2 - p, by omega, if_pos hk⟩
        · have := hv3 hk
          exact ⟨x - p, by omega, if_neg hk⟩
      have K5 := Aside0.mk (show ∀ W, Tj P I j w W → _ from fun W hW => HCB.out j hj W hW.inv hW.te.bes)
      rw [hel] at K5
      unfold cbArgs at K5
      simp only [hv, hoff.2] at K5
      have i0 : (o1 : Int) ≤ (n : Int) := by omega
      have i1 : o1 ≤ n := by omega
      have i2 : c ≠ o1 := by omega
      have i3 : ((yo : Int) == 0) = false := beq_eq_false_iff_ne.2 (by omega)
      have i6 : ((o1 : Int) + (yo : Int)).toNat = o1 + yo := by omega
      have i7 : (0 : Int) ≤ (o1 : Int) + (yo : Int) := by omega
      have i8 : (o1 : Int) + (yo : Int) ≤ (n : Int) := by omega
      have i9 : o1 + yo ≤ n := by omega
      have ia : c ≠ o1 + yo := by omega
      have ib : ((zo : Int) == -1) = false := beq_eq_false_iff_ne.2 (by omega)
      have id' : (0 : Int) ≤ (o1 : Int) + (yo : Int) + (zo : Int) := by omega
      have ie : (o1 : Int) + (yo : Int) + (zo : Int) < (n : Int) := by omega
      have ie' : o1 + yo + zo < n := by omega
      have ig : ((o1 : Int) + (yo : Int) + (zo : Int)).toNat = o1 + yo + zo := by omega
      obtain ⟨i4, i5, ic, ih⟩ : IntKind.i64.wrap ((o1 : Int) + (yo : Int)) = (o1 : Int) + (yo : Int) ∧ IntKind.i64.wrap ((o1 : Int) + (yo : Int) - (vl : Int)) = (off : Int) ∧ IntKind.i64.wrap ((o1 : Int) + (yo : Int) + (zo : Int)) = (o1 : Int) + (yo : Int) + (zo : Int) ∧ IntKind.i64.wrap ((o1 : Int) + (yo : Int) + (zo : Int) + 1) = (o1 : Int) + (yo : Int) + (zo : Int) + 1 := by
        refine ⟨?_, ?_, ?_, ?_⟩ <;> (rw [IntKind.wrap_i64]; omega)
      have HR1 := Aside0.mk HR.out.tj
      have HX := Aside0.mk (show ∀ (W : World) (r : List (Nat × Nat × Int)), Tj P I (j + 1) w W → els.drop (j + 1) = r → EL s e (p + (o1 + yo + zo) + 1) r f → o1 + yo + zo + 1 < n ∧ Lp s e p n f els P I (o1 + yo + zo + 1) (j + 1) w W from fun W r hW hr ht => by
        have hlt : o1 + yo + zo + 1 < n := by
          cases ht with
          | last hg => have := hg.ax; have := hg.xy; have := hg.ye; omega
          | more hg => have := hg.ax; have := hg.xy; have := hg.ye; omega
        exact ⟨hlt, hW, ⟨r, hr, by rwa [show p + (o1 + yo + zo + 1) = p + (o1 + yo + zo) + 1 by omega]⟩, hlt⟩)
      have HQ := Aside0.mk hcase
      clear hcase hoff hel hkn hg HR hn he hz hc ho1 hax hxy yz ze hv hv1 hv2 hv3
      have g1 := HR1.out.te.cfg0
      have g2 := HR1.out.te.cfg1
      have g3 := HR1.out.te.cfg2
      go_wp2
      go_region_held3 (fun w' => w'.cell? ⟨w.heap.size, 0, none⟩ = some (.bool false) ∧ w'.cell? ⟨w.heap.size, 1, none⟩ = some (.bool false) ∧ w'.cell? ⟨w.heap.size, 2, none⟩ = some (.int .i64 0) ∧ Aside0 (Tj P I j w w'))
        (first | exact HR1.out.cells | exact (HR1.out.drew HIB.out).cells | exact HR2.out.cells | exact (HR2.out.drew HIB.out).cells)
        (first | (go_at_call 50; (with_reducible refine (K3.out _ (HR1.out.drew HIB.out)).mono ?_); rintro e' w3 ⟨rfl, HB⟩; have HR2 := Aside0.mk ((HR1.out.drew HIB.out).more HIB.out HB); clear HB))
      clear g1 g2 g3
      have g1 := HR2.out.te.cfg0
      have g2 := HR2.out.te.cfg1
      have g3 := HR2.out.te.cfg2
      go_wp2
      rw [HKF.out, Oper.upon_enter]
      refine (K5.out _ HR2.out).mono ?_
      rintro e' w4 ⟨rfl, hI4, hB4⟩
      have HR4 := Aside0.mk (show Tj P I (j + 1) w w4 from ⟨HR2.out.te.beside HP.out hB4, hI4⟩)
      clear g1 g2 g3 hI4 hB4
      have g1 := HR4.out.te.cfg0
      have g2 := HR4.out.te.cfg1
      have g3 := HR4.out.te.cfg2
      go_wp2
      go_region_held3 (fun w' => w'.cell? ⟨w.heap.size, 0, none⟩ = some (.bool false) ∧ w'.cell? ⟨w.heap.size, 1, none⟩ = some (.bool false) ∧ w'.cell? ⟨w.heap.size, 2, none⟩ = some (.int .i64 0) ∧ Aside0 (Tj P I (j + 1) w w'))
        (first | exact HR4.out.cells | exact (HR4.out.drew HIB.out).cells | exact HR5.out.cells | exact (HR5.out.drew HIB.out).cells)
        (first | (go_at_call 48; (with_reducible refine (K4.out _ (HR4.out.drew HIB.out)).mono ?_); rintro e' w5 ⟨rfl, HB⟩; have HR5 := Aside0.mk ((HR4.out.drew HIB.out).more HIB.out HB); clear HB))
      clear g1 g2 g3
      have g1 := HR5.out.te.cfg0
      have g2 := HR5.out.te.cfg1
      have g3 := HR5.out.te.cfg2
      have x4 := B4.out _ HR5.out
      rcases HQ.out with ⟨hz93, hjl, rfl⟩ | ⟨hz44, r, hr, ht⟩
      · rw [hz93] at x4
        have HJ := Aside0.mk hjl
        clear hz93 hjl
        go_wp2
        go_ret2
        exact ⟨by simp, HJ.out ▸ HR5.out.inv, HR5.out.te.bes⟩
      · rw [hz44] at x4
        have HY := Aside0.mk (HX.out _ r HR5.out hr ht)
        clear hz44 hr ht
        go_wp2
        go_roundw
        case rel => exact ⟨o1 + yo + zo + 1, j + 1, by simp, ⟨HY.out.2⟩⟩
        case measure => have := HY.out.1; simp [intOf]; omega
end Go.Proofs.YtpdohioobbfncaaGreatDoor.PFnJpWildStop/- The call back of searchKeysConfig, told by hand; no condition beside those that each theorem states. -/
namespace Go.Proofs.YtpdohioobbfncaaGreatDoor.PFnJpWildStop
open Go.RowKit Go.Proofs.YtpdohioobbfncaaGreatDoorW.PrintWords Go.Proofs.YtpdohioobbfncaaGreatDoorW.PrintLast Go.Proofs.YtpdohioobbfncaaGreatDoorW.PrintMore
set_option linter.unusedVariables false
set_option linter.unusedSimpArgs false
/-- A block of one cell, not frozen. -/
def Bx (g : Nat) (v : Value) (W : World) : Prop := ∃ t, W.heap[g]? = some (.cells #[v] t (0, 0))
theorem Bx.cell {g : Nat} {v : Value} {W : World} (h : Bx g v W) : W.cell? ⟨g, 0, none⟩ = some v := by
  obtain ⟨t, h⟩ := h
  rw [blk_cell h]
  rfl
theorem Bx.free {g : Nat} {v : Value} {W : World} (h : Bx g v W) : W.frozen? ⟨g, 0, none⟩ = false := by
  obtain ⟨t, h⟩ := h
  exact blk_frozen h 0
theorem Bx.lt {g : Nat} {v : Value} {W : World} (h : Bx g v W) : g < W.heap.size := by
  obtain ⟨t, h⟩ := h
  exact blk_lt h
theorem Bx.put {g : Nat} {v u : Value} {W : World} (h : Bx g v W) : Bx g u (W.setCell ⟨g, 0, none⟩ u) := by
  obtain ⟨t, h⟩ := h
  exact ⟨t, by rw [heap_setCell_same W g 0 _ t _ h]; rfl⟩
theorem Bx.other {g k : Nat} {v u : Value} {W : World} (h : Bx g v W) (hk : g ≠ k) : Bx g v (W.setCell ⟨k, 0, none⟩ u) := by
  obtain ⟨t, h⟩ := h
  exact ⟨t, (Below.heap_setCell _ _ _ _ hk).trans h⟩
theorem Bx.more {g : Nat} {v : Value} {W W' : World} (h : Bx g v W) (hb : Below W.heap.size W W') : Bx g v W' := by
  obtain ⟨t, h⟩ := h
  exact ⟨t, (hb.block g (blk_lt h)).trans h⟩
theorem Bx.new (W : World) (v : Value) (t : TypeId) : Bx W.heap.size v (W.alloc (.cells #[v] t)) := ⟨t, heap_alloc_new _ _⟩
/-- What the call back has found by its turn: nothing ahead of the sought element, and behind it that element's text. -/
structure Cc (c1 c2 c3 c4 c5 c6 b a n c p ai : Nat) (els : List (Nat × Nat × Int)) (j : Nat) (W : World) : Prop where
  cur : Bx c1 (.int .i64 (j : Int)) W
  ix : Bx c2 (.int .i64 (ai : Int)) W
  data : Bx c5 (.slice (some ⟨b, a, none⟩) n c) W
  at_ : Bx c6 (.int .i64 ((p - a : Nat) : Int)) W
  not : j ≤ ai → Bx c3 (.slice none 0 0) W ∧ Bx c4 (.int .i64 0) W
  yes : ai < j → ∃ x y kd cx, els[ai]? = some (x, y, kd) ∧ y - x ≤ cx ∧ Bx c3 (.slice (some ⟨b, x, none⟩) (y - x) cx) W ∧ Bx c4 (.int .i64 ((x - p : Nat) : Int)) W
structure Ap (c1 c2 c3 c4 c5 c6 : Nat) : Prop where
  h : c1 ≠ c2 ∧ c1 ≠ c3 ∧ c1 ≠ c4 ∧ c1 ≠ c5 ∧ c1 ≠ c6 ∧ c3 ≠ c2 ∧ c3 ≠ c4 ∧ c3 ≠ c5 ∧ c3 ≠ c6 ∧ c4 ≠ c2 ∧ c4 ≠ c5 ∧ c4 ≠ c6
theorem Cc.more {c1 c2 c3 c4 c5 c6 b a n c p ai : Nat} {els : List (Nat × Nat × Int)} {j : Nat} {W W' : World} (h : Cc c1 c2 c3 c4 c5 c6 b a n c p ai els j W) (hb : Below W.heap.size W W') : Cc c1 c2 c3 c4 c5 c6 b a n c p ai els j W' :=
  ⟨h.cur.more hb, h.ix.more hb, h.data.more hb, h.at_.more hb, fun hj => ⟨(h.not hj).1.more hb, (h.not hj).2.more hb⟩, fun hj => by
    obtain ⟨x, y, kd, cx, e1, e2, e3, e4⟩ := h.yes hj
    exact ⟨x, y, kd, cx, e1, e2, e3.more hb, e4.more hb⟩⟩
theorem wr0 (x : Nat) (h : x ≤ 2147483647) : IntKind.i64.wrap (x : Int) = x := by
  rw [IntKind.wrap_i64]
  omega
theorem ar0 (a m : Nat) : a + m + 2 - a = m + 2 := by omega
/-- What the call back writes. -/
def Wr (c1 c3 c4 : Nat) (k : Nat) : Prop := k = c1 ∨ k = c3 ∨ k = c4
set_option maxHeartbeats 4000000 in
set_option maxRecDepth 100000 in
theorem clos_calls (c1 c2 c3 c4 c5 c6 b a n c p ai : Nat) (els : List (Nat × Nat × Int)) (ha : Ap c1 c2 c3 c4 c5 c6) (j : Nat) (hj : j < els.length) (W : World) (h : Cc c1 c2 c3 c4 c5 c6 b a n c p ai els j W)
    (hp : a ≤ p) (hx : ∀ q ∈ els, p ≤ q.1 ∧ q.1 < q.2.1 ∧ q.2.1 ≤ a + n ∧ (q.2.2 = 1 → q.1 + 2 ≤ q.2.1)) (hn : n ≤ c) (hz : a + n ≤ 2147483647) (hl : els.length ≤ 2147483647) :
    Calls Tryz.prog 69 (cbArgs b p els[j] ++ #[.pointer (some ⟨c1, 0, none⟩), .pointer (some ⟨c2, 0, none⟩), .pointer (some ⟨c3, 0, none⟩), .pointer (some ⟨c4, 0, none⟩), .pointer (some ⟨c5, 0, none⟩), .pointer (some ⟨c6, 0, none⟩)]) W
      fun e' W' => e' = .returned (.tuple #[]) ∧ Cc c1 c2 c3 c4 c5 c6 b a n c p ai els (j + 1) W' ∧ Bes (Wr c1 c3 c4) W W' := by
  obtain ⟨⟨x, y, kd⟩, hq⟩ : ∃ q, els[j] = q := ⟨_, rfl⟩
  have hx1 := hx els[j] (List.getElem_mem hj)
  rw [hq] at hx1 ⊢
  obtain ⟨hx1, hx2, hx3, hx4⟩ := hx1
  simp only at hx1 hx2 hx3 hx4
  obtain ⟨vx, vl, hv, hv1, hv2, hv3⟩ := vsl_slice b x y kd
  have k1 := h.cur.cell
  have k2 := h.ix.cell
  have k5 := h.data.cell
  have k6 := h.at_.cell
  have f1 := h.cur.free
  have w1 : IntKind.i64.wrap ((j : Int) + 1) = (j : Int) + 1 := by rw [IntKind.wrap_i64]; omega
  have ej : ((j + 1 : Nat) : Int) = (j : Int) + 1 := by omega
  have EJ := Aside0.mk ej
  clear ej
  unfold cbArgs
  simp only [hv]
  have hB : ∀ W', Bes (Wr c1 c3 c4) W W' → Bes (Wr c1 c3 c4) W (W'.setCell ⟨c1, 0, none⟩ (.int .i64 ((j : Int) + 1))) := fun W' hb => hb.set c1 0 _ (.inl rfl)
  have HB := Aside0.mk hB
  have HH := Aside0.mk h
  by_cases hja : j = ai
  · subst hja
    obtain ⟨h3, h4⟩ := h.not (Nat.le_refl _)
    have k3 := h3.cell
    have k4 := h4.cell
    have f3 := h3.free
    have f4 := h4.free
    have hqq : els[j]? = some (x, y, kd) := by rw [List.getElem?_eq_getElem hj, hq]
    by_cases hk : kd = 1
    · subst hk
      obtain ⟨rfl, rfl⟩ := hv2 rfl
      have hx5 := hx4 rfl
      simp only [if_pos]
      obtain ⟨po, hpo⟩ : ∃ po, p - a = po := ⟨_, rfl⟩
      obtain ⟨xo, hxo⟩ : ∃ xo, x - p = xo := ⟨_, rfl⟩
      obtain ⟨m, hm⟩ : ∃ m, y - x - 2 = m := ⟨_, rfl⟩
      have hy : y - x = m + 2 := by omega
      have hxe : x = a + (po + xo) := by omega
      rw [hm, show x + 2 - p = xo + 2 by omega]
      rw [hpo] at k6
      have kk : ∀ u v v' : Value, (((W.setCell ⟨c3, 0, none⟩ u).setCell ⟨c4, 0, none⟩ v).setCell ⟨c4, 0, none⟩ v').cell? ⟨c4, 0, none⟩ = some v' := fun u v v' => ((h4.other ha.h.2.2.2.2.2.2.1.symm).put.put).cell
      have hx7 : xo ≤ 2147483647 := by clear w1; omega
      have t1 : ((po : Int) + (xo : Int)).toNat = po + xo := by omega
      have t2 : ((po : Int) + (xo : Int) + (m : Int) + 2).toNat = po + xo + m + 2 := by omega
      have i1 : (0 : Int) ≤ (po : Int) + (xo : Int) := by omega
      have i2 : (po : Int) + (xo : Int) ≤ (po : Int) + (xo : Int) + (m : Int) + 2 := by omega
      have i3 : (po : Int) + (xo : Int) + (m : Int) + 2 ≤ (c : Int) := by omega
      have i4 : c ≠ po + xo := by omega
      have i5 : po + xo ≤ po + xo + m + 2 := by omega
      have i6 : po + xo + m + 2 ≤ c := by omega
      obtain ⟨w2, w3, w4, w5, w6⟩ : IntKind.i64.wrap (((xo + 2 : Nat) : Int) - 2) = (xo : Int) ∧ IntKind.i64.wrap ((xo : Int) + 2 - 2) = (xo : Int) ∧ IntKind.i64.wrap ((po : Int) + (xo : Int)) = (po : Int) + (xo : Int) ∧ IntKind.i64.wrap ((po : Int) + (xo : Int) + (m : Int)) = (po : Int) + (xo : Int) + (m : Int) ∧ IntKind.i64.wrap ((po : Int) + (xo : Int) + (m : Int) + 2) = (po : Int) + (xo : Int) + (m : Int) + 2 := by
        clear w1
        refine ⟨?_, ?_, ?_, ?_, ?_⟩ <;> (rw [IntKind.wrap_i64]; omega)
      have w7 := wr0 xo hx7
      obtain ⟨n1, n2, n3, n4, n5, n6, n7, n8, n9, na, nb, nc⟩ := ha.h
      have m1 := n1.symm; have m2 := n2.symm; have m3 := n3.symm; have m4 := n4.symm; have m5 := n5.symm; have m6 := n6.symm; have m7 := n7.symm; have m8 := n8.symm; have m9 := n9.symm; have ma := na.symm; have mb := nb.symm; have mc := nc.symm
      have HE := Aside0.mk (And.intro hxe (And.intro hy (And.intro hxo (And.intro hqq (And.intro hpo (show m + 2 ≤ c - (po + xo) from Nat.le_sub_of_add_le (by rw [Nat.add_comm (m + 2), ← Nat.add_assoc]; exact i6)))))))
      have H3 := Aside0.mk h3
      have H4 := Aside0.mk h4
      clear hxe hy hxo hqq hm hpo h h3 h4 hx hx1 hx2 hx3 hx4 hx5 hp hn hz hl hv hv1 hv2 hv3 hB ha hq
      go_enter Tryz.func69, Tryz.ntmps69
      go_wp2
      go_end0
      obtain ⟨hxe, hy, hxo, hqq, hpo, hcx⟩ := HE.out
      refine ⟨rfl, ⟨?_, ?_, ?_, ?_, fun hh => absurd hh (Nat.not_succ_le_self _), fun _ => ⟨x, y, 1, c - (po + xo), hqq, hy ▸ hcx, ?_, ?_⟩⟩, ?_⟩
      · rw [EJ.out]; exact ((((HH.out.cur.other n2).other n3).other n3).other n2).put
      · exact ((((HH.out.ix.other m6).other ma).other ma).other m6).other m1
      · exact ((((HH.out.data.other m8).other mb).other mb).other m8).other m4
      · exact ((((HH.out.at_.other m9).other mc).other mc).other m9).other m5
      · rw [show Value.slice (some ⟨b, x, none⟩) (y - x) (c - (po + xo)) = Value.slice (some ⟨b, a + (po + xo), none⟩) (po + xo + m + 2 - (po + xo)) (c - (po + xo)) from by rw [← hxe, hy, show po + xo + m + 2 - (po + xo) = m + 2 from ar0 _ _]]
        exact ((((H3.out.put.other n7).other n7).put).other m2)
      · rw [hxo]
        exact ((((H4.out.other m7).put).put).other m7).other m3
      · exact HB.out _ (((((Bes.refl _ W).set c3 0 _ (.inr (.inl rfl))).set c4 0 _ (.inr (.inr rfl))).set c4 0 _ (.inr (.inr rfl))).set c3 0 _ (.inr (.inl rfl)))
    · obtain ⟨rfl, rfl⟩ := hv3 hk
      have hk2 : (kd == 1) = false := beq_eq_false_iff_ne.2 hk
      simp only [if_neg hk]
      obtain ⟨n1, n2, n3, n4, n5, n6, n7, n8, n9, na, nb, nc⟩ := ha.h
      have m1 := n1.symm; have m2 := n2.symm; have m3 := n3.symm; have m4 := n4.symm; have m5 := n5.symm; have m6 := n6.symm; have m7 := n7.symm; have m8 := n8.symm; have m9 := n9.symm; have ma := na.symm; have mb := nb.symm; have mc := nc.symm
      have H3 := Aside0.mk h3
      have H4 := Aside0.mk h4
      have HE := Aside0.mk hqq
      clear h h3 h4 hx hx1 hx2 hx3 hx4 hp hn hz hl hv hv1 hv2 hv3 hB ha hq hk hqq
      go_enter Tryz.func69, Tryz.ntmps69
      go_wp2
      go_end0
      refine ⟨rfl, ⟨?_, ?_, ?_, ?_, fun hh => absurd hh (Nat.not_succ_le_self _), fun _ => ⟨_, _, _, _, HE.out, Nat.le_refl _, ?_, ?_⟩⟩, ?_⟩
      · rw [EJ.out]; exact ((HH.out.cur.other n2).other n3).put
      · exact ((HH.out.ix.other m6).other ma).other m1
      · exact ((HH.out.data.other m8).other mb).other m4
      · exact ((HH.out.at_.other m9).other mc).other m5
      · exact (H3.out.put.other n7).other m2
      · exact ((H4.out.other m7).put).other m3
      · exact HB.out _ (((Bes.refl _ W).set c3 0 _ (.inr (.inl rfl))).set c4 0 _ (.inr (.inr rfl)))
  · have cja : ((j : Int) == (ai : Int)) = false := beq_eq_false_iff_ne.2 (by omega)
    obtain ⟨off, hoff⟩ : ∃ off, (if kd = 1 then ((x + 2 - p : Nat) : Int) else ((x - p : Nat) : Int)) = off := ⟨_, rfl⟩
    rw [hoff]
    obtain ⟨n1, n2, n3, n4, n5, n6, n7, n8, n9, na, nb, nc⟩ := ha.h
    have m1 := n1.symm; have m2 := n2.symm; have m3 := n3.symm; have m4 := n4.symm; have m5 := n5.symm; have m6 := n6.symm; have m7 := n7.symm; have m8 := n8.symm; have m9 := n9.symm; have ma := na.symm; have mb := nb.symm; have mc := nc.symm
    clear h hx hx1 hx2 hx3 hx4 hp hn hz hl hv hv1 hv2 hv3 hB ha hq hoff
    go_enter Tryz.func69, Tryz.ntmps69
    go_wp2
    go_end0
    refine ⟨rfl, ⟨by rw [EJ.out]; exact HH.out.cur.put, HH.out.ix.other m1, HH.out.data.other m4, HH.out.at_.other m5, fun hh => ?_, fun hh => ?_⟩, HB.out _ (Bes.refl _ W)⟩
    · have := HH.out.not (by omega)
      exact ⟨this.1.other m2, this.2.other m3⟩
    · obtain ⟨x, y, kd, cx, e1, e2, e3, e4⟩ := HH.out.yes (by omega)
      exact ⟨x, y, kd, cx, e1, e2, e3.other m2, e4.other m3⟩
end Go.Proofs.YtpdohioobbfncaaGreatDoor.PFnJpWildStop