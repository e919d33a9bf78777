/- getTypeConfig at a value, told by hand kind by kind; no condition beside those that each theorem states. -/
import Derived.Test.YtpdohioobbfncaaGreatDoorHHFnJpWildStop
import Derived.Deep.RegionHeld3
import Derived.Test.YtpdohioobbfncaaGreatDoorPFnJpWildStopx14
import Derived.Test.YtpdohioobbfncaaGreatDoorPFnJpWildStopx15
import Derived.Test.YtpdohioobbfncaaGreatDoorPFnJpWildStopx16
namespace Go.Proofs.YtpdohioobbfncaaGreatDoor.PFnJpWildStop
open Go.RowKit Go.Proofs.YtpdohioobbfncaaGreatDoorW.PrintWords Go.Proofs.YtpdohioobbfncaaGreatDoorW.PrintLast Go.Proofs.YtpdohioobbfncaaGreatDoorW.PrintMore
set_option linter.unusedVariables false
set_option linter.unusedSimpArgs false
/-- What is looked at: the text, and the configuration's own block. -/
structure Tg (b o : Nat) (l : List Int) (w0 W : World) : Prop where
  below : Below w0.heap.size w0 W
  glob : Glob W
  text : Hd b o l W
  cfg0 : W.cell? ⟨w0.heap.size, 0, none⟩ = some (.bool false)
  cfg1 : W.cell? ⟨w0.heap.size, 1, none⟩ = some (.bool false)
  cfg2 : W.cell? ⟨w0.heap.size, 2, none⟩ = some (.int .i64 0)
theorem Tg.more {b o : Nat} {l : List Int} {w0 W W' : World} (h : Tg b o l w0 W) (hb : Below W.heap.size W W') : Tg b o l w0 W' :=
  ⟨below_step h.below hb, h.glob.below hb, h.text.more hb, keep_ h.cfg0 hb, keep_ h.cfg1 hb, keep_ h.cfg2 hb⟩
theorem Tg.drew {b o : Nat} {l : List Int} {w0 W : World} (h : Tg b o l w0 W) : Tg b o l w0 W.drew := h.more (Below.refl _ _).drew
theorem Tg.cells {b o : Nat} {l : List Int} {w0 W : World} (h : Tg b o l w0 W) : W.cell? ⟨w0.heap.size, 0, none⟩ = some (.bool false) ∧ W.cell? ⟨w0.heap.size, 1, none⟩ = some (.bool false) ∧ W.cell? ⟨w0.heap.size, 2, none⟩ = some (.int .i64 0) ∧ Aside0 (Tg b o l w0 W) := ⟨h.cfg0, h.cfg1, h.cfg2, ⟨h⟩⟩
theorem Tg.start {b o : Nat} {l : List Int} {w0 : World} (hG : Glob w0) (ht : Hd b o l w0) (t1 : TypeId) : Tg b o l w0 (w0.alloc (.cells #[.bool false, .bool false, .int .i64 0] t1)) := by
  have h1 := below_alloc_ w0 (.cells #[.bool false, .bool false, .int .i64 0] t1)
  have k1 := heap_alloc_new w0 (.cells #[.bool false, .bool false, .int .i64 0] t1)
  exact ⟨h1, hG.below h1, ht.more h1, (blk_cell k1 0).trans rfl, (blk_cell k1 1).trans rfl, (blk_cell k1 2).trans rfl⟩
set_option maxHeartbeats 8000000 in
set_option maxRecDepth 100000 in
theorem type_arr (kb : Nat) (b o c off m : Nat) (l : List Int) (w : World) (hc : l.length ≤ c) (hz : l.length ≤ 4611686018427387904) (hG : Glob w) (hH : Hd b o l w) (h1 : 0 < m) (h2 : off + m ≤ l.length) (h91 : rd l (off : Int) = 91)
    (hbe : bEC_.f kb false false 0 (l.drop off) 91 93 = some (m : Int)) :
    Calls Tryz.prog 70 #[cfgV, .slice (some ⟨b, o, none⟩) l.length c, .int .i64 off] w fun e w' => e = .returned (.tuple #[.slice (some ⟨b, o + off, none⟩) m (c - off), .int .i64 4, .int .i64 ((off : Int) + m), .nilIface]) ∧ Below w.heap.size w w' := by
  have HW := Aside0.mk (Tg.start hG hH 72)
  have k1 : ∀ W, Tg b o l w W → Calls Tryz.prog 67 #[cfgV, .slice (some ⟨b, o + off, none⟩) (l.length - off) (c - off), .int .u8 91, .int .u8 93] W fun e w' => e = .returned (.int .i64 m) ∧ Below W.heap.size W w' := by
    intro W hW
    have h := bEC_.calls kb false false 0 (some ⟨b, o + off, none⟩) (c - off) (l.drop off) 91 93 m W ((hW.text.drop off).reads (by rw [List.length_drop]; omega)) (by rw [List.length_drop]; omega) hbe hW.glob
    rwa [List.length_drop] at h
  have x0 : w.cell? ⟨b, o + off, none⟩ = some (.int .u8 91) := hH.at_ off 91 (by omega) h91
  have X0 := fun ob => keep_ x0 (below_alloc_ w ob)
  have HA := Aside0.mk (fun ob => below_alloc_ w ob)
  obtain ⟨n, hn⟩ : ∃ n, l.length = n := ⟨_, rfl⟩
  rw [hn] at k1 h2 hc hz ⊢
  have m0 : (off : Int) < (n : Int) := by omega
  have m1 : off < n := by omega
  have m2 : off ≤ n := by omega
  have m3 : (off : Int) ≤ (n : Int) := by omega
  have m4 : c ≠ off := by omega
  have m5 : off + m ≤ n := by omega
  have m6 : off + m ≤ c := by omega
  have m7 : (m : Int) ≠ -1 := by omega
  have m8 : ((m : Int) == -1) = false := beq_eq_false_iff_ne.2 m7
  have m9 : IntKind.i64.wrap ((m : Int) + (off : Int)) = (off : Int) + m := by rw [IntKind.wrap_i64]; omega
  have ma : ((off : Int) + (m : Int)).toNat = off + m := by omega
  have mb : (off : Int) ≤ (off : Int) + m := by omega
  have mc : (off : Int) + (m : Int) ≤ (n : Int) := by omega
  have md : (off : Int) + (m : Int) ≤ (c : Int) := by omega
  have me : (0 : Int) ≤ (off : Int) + (m : Int) := by omega
  clear hbe hH hG hn hz h91
  dsimp only [cfgV]
  go_enter Tryz.func70, Tryz.ntmps70
  have g1 := HW.out.cfg0
  have g2 := HW.out.cfg1
  have g3 := HW.out.cfg2
  go_wp2
  go_region_held3 (fun w' => w'.cell? ⟨w.heap.size, 0, none⟩ = some (.bool false) ∧ w'.cell? ⟨w.heap.size, 1, none⟩ = some (.bool false) ∧ w'.cell? ⟨w.heap.size, 2, none⟩ = some (.int .i64 0) ∧ Aside0 (Tg b o l w w'))
    (first | exact HW.out.cells | exact HW.out.drew.cells | exact HW1.out.cells | exact HW1.out.drew.cells)
    (first | (go_at_call 67; (with_reducible refine (k1 _ HW.out.drew).mono ?_); rintro e w1 ⟨rfl, HB⟩; have HW1 := Aside0.mk (HW.out.drew.more HB); clear HB))
  go_wp2
  refine bodyPost_ret (results_tmp4 rfl _ _ _) rfl ?_
  exact ⟨by simp, HW1.out.below⟩
set_option maxHeartbeats 8000000 in
set_option maxRecDepth 100000 in
theorem type_obj (kb : Nat) (b o c off m : Nat) (l : List Int) (w : World) (hc : l.length ≤ c) (hz : l.length ≤ 4611686018427387904) (hG : Glob w) (hH : Hd b o l w) (h1 : 0 < m) (h2 : off + m ≤ l.length) (h91 : rd l (off : Int) = 123)
    (hbe : bEC_.f kb false false 0 (l.drop off) 123 125 = some (m : Int)) :
    Calls Tryz.prog 70 #[cfgV, .slice (some ⟨b, o, none⟩) l.length c, .int .i64 off] w fun e w' => e = .returned (.tuple #[.slice (some ⟨b, o + off, none⟩) m (c - off), .int .i64 3, .int .i64 ((off : Int) + m), .nilIface]) ∧ Below w.heap.size w w' := by
  have HW := Aside0.mk (Tg.start hG hH 72)
  have k1 : ∀ W, Tg b o l w W → Calls Tryz.prog 67 #[cfgV, .slice (some ⟨b, o + off, none⟩) (l.length - off) (c - off), .int .u8 123, .int .u8 125] W fun e w' => e = .returned (.int .i64 m) ∧ Below W.heap.size W w' := by
    intro W hW
    have h := bEC_.calls kb false false 0 (some ⟨b, o + off, none⟩) (c - off) (l.drop off) 123 125 m W ((hW.text.drop off).reads (by rw [List.length_drop]; omega)) (by rw [List.length_drop]; omega) hbe hW.glob
    rwa [List.length_drop] at h
  have x0 : w.cell? ⟨b, o + off, none⟩ = some (.int .u8 123) := hH.at_ off 123 (by omega) h91
  have X0 := fun ob => keep_ x0 (below_alloc_ w ob)
  have HA := Aside0.mk (fun ob => below_alloc_ w ob)
  obtain ⟨n, hn⟩ : ∃ n, l.length = n := ⟨_, rfl⟩
  rw [hn] at k1 h2 hc hz ⊢
  have m0 : (off : Int) < (n : Int) := by omega
  have m1 : off < n := by omega
  have m2 : off ≤ n := by omega
  have m3 : (off : Int) ≤ (n : Int) := by omega
  have m4 : c ≠ off := by omega
  have m5 : off + m ≤ n := by omega
  have m6 : off + m ≤ c := by omega
  have m7 : (m : Int) ≠ -1 := by omega
  have m8 : ((m : Int) == -1) = false := beq_eq_false_iff_ne.2 m7
  have m9 : IntKind.i64.wrap ((m : Int) + (off : Int)) = (off : Int) + m := by rw [IntKind.wrap_i64]; omega
  have ma : ((off : Int) + (m : Int)).toNat = off + m := by omega
  have mb : (off : Int) ≤ (off : Int) + m := by omega
  have mc : (off : Int) + (m : Int) ≤ (n : Int) := by omega
  have md : (off : Int) + (m : Int) ≤ (c : Int) := by omega
  have me : (0 : Int) ≤ (off : Int) + (m : Int) := by omega
  clear hbe hH hG hn hz h91
  dsimp only [cfgV]
  go_enter Tryz.func70, Tryz.ntmps70
  have g1 := HW.out.cfg0
  have g2 := HW.out.cfg1
  have g3 := HW.out.cfg2
  go_wp2
  go_region_held3 (fun w' => w'.cell? ⟨w.heap.size, 0, none⟩ = some (.bool false) ∧ w'.cell? ⟨w.heap.size, 1, none⟩ = some (.bool false) ∧ w'.cell? ⟨w.heap.size, 2, none⟩ = some (.int .i64 0) ∧ Aside0 (Tg b o l w w'))
    (first | exact HW.out.cells | exact HW.out.drew.cells | exact HW1.out.cells | exact HW1.out.drew.cells)
    (first | (go_at_call 67; (with_reducible refine (k1 _ HW.out.drew).mono ?_); rintro e w1 ⟨rfl, HB⟩; have HW1 := Aside0.mk (HW.out.drew.more HB); clear HB))
  go_wp2
  refine bodyPost_ret (results_tmp4 rfl _ _ _) rfl ?_
  exact ⟨by simp, HW1.out.below⟩
end Go.Proofs.YtpdohioobbfncaaGreatDoor.PFnJpWildStop/- getTypeConfig at a string, told by hand; no condition beside those that each theorem states. -/
namespace Go.Proofs.YtpdohioobbfncaaGreatDoor.PFnJpWildStop
open Go.RowKit Go.Proofs.YtpdohioobbfncaaGreatDoorW.PrintWords Go.Proofs.YtpdohioobbfncaaGreatDoorW.PrintLast Go.Proofs.YtpdohioobbfncaaGreatDoorW.PrintMore
set_option linter.unusedVariables false
set_option linter.unusedSimpArgs false
set_option maxHeartbeats 1000000 in
set_option maxRecDepth 100000 in
theorem type_str (kb : Nat) (b o c off e : Nat) (l : List Int) (w : World) (hc : l.length ≤ c) (hz : l.length ≤ 4611686018427387904) (hG : Glob w) (hH : Hd b o l w) (h2 : off + (e + 1) ≤ l.length) (h34 : rd l (off : Int) = 34) (he : 1 ≤ e) (es : Bool)
    (hse : sEC_.f kb false false 0 (l.drop (off + 1)) 34 = some ((e : Int), es)) :
    Calls Tryz.prog 70 #[cfgV, .slice (some ⟨b, o, none⟩) l.length c, .int .i64 off] w fun e' w' => e' = .returned (.tuple #[.slice (some ⟨b, o + off, none⟩) (e + 1) (c - off), .int .i64 1, .int .i64 ((off : Int) + ((e : Int) + 1)), .nilIface]) ∧ Below w.heap.size w w' := by
  have HW := Aside0.mk (Tg.start hG hH 72)
  have k1 : ∀ W, Tg b o l w W → Calls Tryz.prog 53 #[cfgV, .slice (some ⟨b, o + (off + 1), none⟩) (l.length - (off + 1)) (c - (off + 1)), .int .u8 34] W fun e' w' => e' = .returned (.tuple #[.int .i64 (e : Int), .bool es]) ∧ Below W.heap.size W w' := by
    intro W hW
    have h := sEC_.calls kb false false 0 (some ⟨b, o + (off + 1), none⟩) (c - (off + 1)) (l.drop (off + 1)) 34 (e : Int) es W ((hW.text.drop (off + 1)).reads (by rw [List.length_drop]; omega)) (by rw [List.length_drop]; omega) hse hW.glob
    rwa [List.length_drop] at h
  have hx : ∀ W, Tg b o l w W → W.cell? ⟨b, o + off, none⟩ = some (.int .u8 34) := fun W h => h.text.at_ off 34 (by omega) h34
  have x0 : w.cell? ⟨b, o + off, none⟩ = some (.int .u8 34) := hH.at_ off 34 (by omega) h34
  have X0 := fun ob => keep_ x0 (below_alloc_ w ob)
  have HA := Aside0.mk (fun ob => below_alloc_ w ob)
  obtain ⟨n, hn⟩ : ∃ n, l.length = n := ⟨_, rfl⟩
  rw [hn] at k1 h2 hc hz
  rw [hn]
  have m0 : (off : Int) < (n : Int) := by omega
  have m1 : off < n := by omega
  have m4 : c ≠ off := by omega
  have m5 : off + (e + 1) ≤ n := by omega
  have m6 : off + (e + 1) ≤ c := Nat.le_trans m5 hc
  have m7 : (e : Int) ≠ -1 := by omega
  have m8 : ((e : Int) == -1) = false := beq_eq_false_iff_ne.2 m7
  have m8' : ((e : Int) != -1) = true := bne_iff_ne.2 m7
  have m9 : IntKind.i64.wrap ((e : Int) + 1) = (e : Int) + 1 := by rw [IntKind.wrap_i64]; omega
  have m9' : IntKind.i64.wrap ((off : Int) + ((e : Int) + 1)) = (off : Int) + ((e : Int) + 1) := by rw [IntKind.wrap_i64]; omega
  have n1 : IntKind.i64.wrap ((off : Int) + 1) = (off : Int) + 1 := by rw [IntKind.wrap_i64]; omega
  have n2 : (off : Int) + 1 ≤ (n : Int) := by omega
  have n5 : (0 : Int) ≤ (off : Int) + 1 := by omega
  have n6 : off + 1 ≤ n := by omega
  have n3 : ((off : Int) + 1).toNat = off + 1 := by omega
  have n4 : c ≠ off + 1 := by omega
  have n5 : off + 1 ≤ n := by omega
  have ma : ((off : Int) + ((e : Int) + 1)).toNat = off + (e + 1) := by omega
  have mb : (off : Int) ≤ (off : Int) + ((e : Int) + 1) := by omega
  have mc : (off : Int) + ((e : Int) + 1) ≤ (n : Int) := by omega
  have md : (off : Int) + ((e : Int) + 1) ≤ (c : Int) := by omega
  have me : (0 : Int) ≤ (off : Int) + ((e : Int) + 1) := by omega
  clear hse hH hG hn hz h34
  dsimp only [cfgV]
  go_enter Tryz.func70, Tryz.ntmps70
  have g1 := HW.out.cfg0
  have g2 := HW.out.cfg1
  have g3 := HW.out.cfg2
  go_wp2
  go_region_held3 (fun w' => w'.cell? ⟨w.heap.size, 0, none⟩ = some (.bool false) ∧ w'.cell? ⟨w.heap.size, 1, none⟩ = some (.bool false) ∧ w'.cell? ⟨w.heap.size, 2, none⟩ = some (.int .i64 0) ∧ w'.cell? ⟨b, o + off, none⟩ = some (.int .u8 34) ∧ Aside0 (Tg b o l w w'))
    (first | exact ⟨HW.out.cfg0, HW.out.cfg1, HW.out.cfg2, hx _ HW.out, ⟨HW.out⟩⟩ | exact ⟨HW.out.drew.cfg0, HW.out.drew.cfg1, HW.out.drew.cfg2, hx _ HW.out.drew, ⟨HW.out.drew⟩⟩ | exact ⟨HW1.out.cfg0, HW1.out.cfg1, HW1.out.cfg2, hx _ HW1.out, ⟨HW1.out⟩⟩ | exact ⟨HW1.out.drew.cfg0, HW1.out.drew.cfg1, HW1.out.drew.cfg2, hx _ HW1.out.drew, ⟨HW1.out.drew⟩⟩)
    (first | (go_at_call 53; (with_reducible refine (k1 _ HW.out.drew).mono ?_); rintro e' w1 ⟨rfl, HB⟩; have HW1 := Aside0.mk (HW.out.drew.more HB); clear HB))
  go_wp2
  refine bodyPost_ret (results_tmp4 rfl _ _ _) rfl ?_
  exact ⟨by simp, HW1.out.below⟩
end Go.Proofs.YtpdohioobbfncaaGreatDoor.PFnJpWildStop/- getTypeConfig at numbers and words, told by hand; no condition beside those that each theorem states. -/
namespace Go.Proofs.YtpdohioobbfncaaGreatDoor.PFnJpWildStop
open Go.RowKit Go.Proofs.YtpdohioobbfncaaGreatDoorW.PrintWords Go.Proofs.YtpdohioobbfncaaGreatDoorW.PrintLast Go.Proofs.YtpdohioobbfncaaGreatDoorW.PrintMore
set_option linter.unusedVariables false
set_option linter.unusedSimpArgs false
set_option maxHeartbeats 4000000 in
set_option maxRecDepth 100000 in
theorem type_num (kt : Nat) (b o c off m : Nat) (d : Int) (l : List Int) (w : World) (hc : l.length ≤ c) (hz : l.length ≤ 4611686018427387904) (hG : Glob w) (hH : Hd b o l w) (h1 : 0 < m) (h2 : off + m ≤ l.length) (hd : rd l (off : Int) = d) (hdd : d = 45 ∨ d = 48 ∨ d = 49 ∨ d = 50 ∨ d = 51 ∨ d = 52 ∨ d = 53 ∨ d = 54 ∨ d = 55 ∨ d = 56 ∨ d = 57)
    (hte : tE_.f kt (l.drop off) = some (m : Int)) :
    Calls Tryz.prog 70 #[cfgV, .slice (some ⟨b, o, none⟩) l.length c, .int .i64 off] w fun e w' => e = .returned (.tuple #[.slice (some ⟨b, o + off, none⟩) m (c - off), .int .i64 2, .int .i64 ((off : Int) + m), .nilIface]) ∧ Below w.heap.size w w' := by
  have k1 : ∀ W, Below w.heap.size w W → Calls Tryz.prog 83 #[.slice (some ⟨b, o + off, none⟩) (l.length - off) (c - off)] W fun e w' => e = .returned (.int .i64 m) ∧ Below W.heap.size W w' := by
    intro W hW
    have h := tE_.calls kt (some ⟨b, o + off, none⟩) (c - off) (l.drop off) m W (((hH.more hW).drop off).reads (by rw [List.length_drop]; omega)) (by rw [List.length_drop]; omega) hte
    rw [List.length_drop] at h
    exact h.mono (fun e w' hh => ⟨hh.1, hh.2.below⟩)
  have x0 : w.cell? ⟨b, o + off, none⟩ = some (.int .u8 d) := hH.at_ off d (by omega) hd
  have X0 := fun ob => keep_ x0 (below_alloc_ w ob)
  have HA := Aside0.mk (fun ob => below_alloc_ w ob)
  obtain ⟨n, hn⟩ : ∃ n, l.length = n := ⟨_, rfl⟩
  rw [hn] at k1 h2 hc hz
  rw [hn]
  have m0 : (off : Int) < (n : Int) := by omega
  have m1 : off < n := by omega
  have m2 : off ≤ n := by omega
  have m3 : (off : Int) ≤ (n : Int) := by omega
  have m4 : c ≠ off := by omega
  have m5 : off + m ≤ n := by omega
  have m6 : off + m ≤ c := by omega
  have m9 : IntKind.i64.wrap ((off : Int) + (m : Int)) = (off : Int) + m := by rw [IntKind.wrap_i64]; omega
  have ma : ((off : Int) + (m : Int)).toNat = off + m := by omega
  have mb : (off : Int) ≤ (off : Int) + m := by omega
  have mc : (off : Int) + (m : Int) ≤ (n : Int) := by omega
  have md : (off : Int) + (m : Int) ≤ (c : Int) := by omega
  have me : (0 : Int) ≤ (off : Int) + (m : Int) := by omega
  clear hte hH hG hn hz hd
  dsimp only [cfgV]
  rcases hdd with rfl | rfl | rfl | rfl | rfl | rfl | rfl | rfl | rfl | rfl | rfl
  all_goals
    go_enter Tryz.func70, Tryz.ntmps70
    go_wp2_with (go_at_call 83; (with_reducible refine (k1 _ (HA.out _)).mono ?_); rintro e w1 ⟨rfl, HB⟩; have HW1 := Aside0.mk (below_step (HA.out _) HB); have x5b := keep_ (X0 _) HB; clear HB)
    refine bodyPost_ret (results_tmp4 rfl _ _ _) rfl ?_
    exact ⟨by simp, HW1.out⟩
end Go.Proofs.YtpdohioobbfncaaGreatDoor.PFnJpWildStop/- getTypeConfig at words, told by hand; no condition beside those that each theorem states. -/
namespace Go.Proofs.YtpdohioobbfncaaGreatDoor.PFnJpWildStop
open Go.RowKit Go.Proofs.YtpdohioobbfncaaGreatDoorW.PrintWords Go.Proofs.YtpdohioobbfncaaGreatDoorW.PrintLast Go.Proofs.YtpdohioobbfncaaGreatDoorW.PrintMore
set_option linter.unusedVariables false
set_option linter.unusedSimpArgs false
theorem rd_drop_ (l : List Int) (i j : Nat) : rd (l.drop i) (j : Int) = rd l ((i + j : Nat) : Int) := by
  unfold rd
  simp only [Int.toNat_natCast, List.getD_eq_getElem?_getD, List.getElem?_drop]
set_option maxHeartbeats 4000000 in
set_option maxRecDepth 100000 in
theorem type_tru (kt : Nat) (b o c off m : Nat) (l : List Int) (w : World) (hc : l.length ≤ c) (hz : l.length ≤ 4611686018427387904) (hG : Glob w) (hH : Hd b o l w) (hm : m = 4) (h2 : off + m ≤ l.length) (hv : (l.drop off).take m = [116, 114, 117, 101])
    (hte : tE_.f kt (l.drop off) = some (m : Int)) :
    Calls Tryz.prog 70 #[cfgV, .slice (some ⟨b, o, none⟩) l.length c, .int .i64 off] w fun e w' => e = .returned (.tuple #[.slice (some ⟨b, o + off, none⟩) m (c - off), .int .i64 5, .int .i64 ((off : Int) + m), .nilIface]) ∧ Below w.heap.size w w' := by
  have h1 : 0 < m := by omega
  have hd : rd l (off : Int) = 116 := by
    have h3 := rd_drop_ l off 0
    have h4 : rd ((l.drop off).take m) 0 = rd (l.drop off) 0 := by
      unfold rd
      rw [hm]
      simp [List.getD_eq_getElem?_getD]
    rw [hv] at h4
    rw [show ((off : Int)) = ((off + 0 : Nat) : Int) by omega, ← h3]
    exact h4.symm
  have hcv : ∀ W, Below w.heap.size w W → (convert 51 9 (.slice (some ⟨b, o + off, none⟩) m (c - off))).run Tryz.prog W = .ok (.string ⟨#[116, 114, 117, 101]⟩) W := by
    intro W hW
    refine (run_convert_bytes_arg W 51 5 Tryz.underlying51 Tryz.underlying5 b (o + off) m (c - off) [116, 114, 117, 101] (by rw [hm]; rfl) (fun i hi => ?_) 9 Tryz.underlying9).trans rfl
    have h5 := ((hH.more hW).drop off).cell i (by rw [List.length_drop]; omega)
    rw [h5, ← hv]
    congr 2
    rw [List.getD_eq_getElem?_getD, List.getD_eq_getElem?_getD, List.getElem?_take_of_lt hi]
  have k1 : ∀ W, Below w.heap.size w W → Calls Tryz.prog 83 #[.slice (some ⟨b, o + off, none⟩) (l.length - off) (c - off)] W fun e w' => e = .returned (.int .i64 m) ∧ Below W.heap.size W w' := by
    intro W hW
    have h := tE_.calls kt (some ⟨b, o + off, none⟩) (c - off) (l.drop off) m W (((hH.more hW).drop off).reads (by rw [List.length_drop]; omega)) (by rw [List.length_drop]; omega) hte
    rw [List.length_drop] at h
    exact h.mono (fun e w' hh => ⟨hh.1, hh.2.below⟩)
  have x0 : w.cell? ⟨b, o + off, none⟩ = some (.int .u8 116) := hH.at_ off 116 (by omega) hd
  have X0 := fun ob => keep_ x0 (below_alloc_ w ob)
  have HA := Aside0.mk (fun ob => below_alloc_ w ob)
  obtain ⟨n, hn⟩ : ∃ n, l.length = n := ⟨_, rfl⟩
  rw [hn] at k1 h2 hc hz
  rw [hn]
  have m0 : (off : Int) < (n : Int) := by omega
  have m1 : off < n := by omega
  have m2 : off ≤ n := by omega
  have m3 : (off : Int) ≤ (n : Int) := by omega
  have m4 : c ≠ off := by omega
  have m5 : off + m ≤ n := by omega
  have m6 : off + m ≤ c := by omega
  have m9 : IntKind.i64.wrap ((off : Int) + (m : Int)) = (off : Int) + m := by rw [IntKind.wrap_i64]; omega
  have ma : ((off : Int) + (m : Int)).toNat = off + m := by omega
  have mb : (off : Int) ≤ (off : Int) + m := by omega
  have mc : (off : Int) + (m : Int) ≤ (n : Int) := by omega
  have md : (off : Int) + (m : Int) ≤ (c : Int) := by omega
  have me : (0 : Int) ≤ (off : Int) + (m : Int) := by omega
  clear hte hH hG hn hz hd hv hm
  dsimp only [cfgV]
  go_enter Tryz.func70, Tryz.ntmps70
  go_wp2_with (go_at_call 83; (with_reducible refine (k1 _ (HA.out _)).mono ?_); rintro e w1 ⟨rfl, HB⟩; have HW1 := Aside0.mk (below_step (HA.out _) HB); have x5b := keep_ (X0 _) HB; have cv := hcv _ HW1.out; clear HB)
  refine bodyPost_ret (results_tmp4 rfl _ _ _) rfl ?_
  exact ⟨by simp, HW1.out⟩
set_option maxHeartbeats 4000000 in
set_option maxRecDepth 100000 in
theorem type_fls (kt : Nat) (b o c off m : Nat) (l : List Int) (w : World) (hc : l.length ≤ c) (hz : l.length ≤ 4611686018427387904) (hG : Glob w) (hH : Hd b o l w) (hm : m = 5) (h2 : off + m ≤ l.length) (hv : (l.drop off).take m = [102, 97, 108, 115, 101])
    (hte : tE_.f kt (l.drop off) = some (m : Int)) :
    Calls Tryz.prog 70 #[cfgV, .slice (some ⟨b, o, none⟩) l.length c, .int .i64 off] w fun e w' => e = .returned (.tuple #[.slice (some ⟨b, o + off, none⟩) m (c - off), .int .i64 5, .int .i64 ((off : Int) + m), .nilIface]) ∧ Below w.heap.size w w' := by
  have h1 : 0 < m := by omega
  have hd : rd l (off : Int) = 102 := by
    have h3 := rd_drop_ l off 0
    have h4 : rd ((l.drop off).take m) 0 = rd (l.drop off) 0 := by
      unfold rd
      rw [hm]
      simp [List.getD_eq_getElem?_getD]
    rw [hv] at h4
    rw [show ((off : Int)) = ((off + 0 : Nat) : Int) by omega, ← h3]
    exact h4.symm
  have hcv : ∀ W, Below w.heap.size w W → (convert 51 9 (.slice (some ⟨b, o + off, none⟩) m (c - off))).run Tryz.prog W = .ok (.string ⟨#[102, 97, 108, 115, 101]⟩) W := by
    intro W hW
    refine (run_convert_bytes_arg W 51 5 Tryz.underlying51 Tryz.underlying5 b (o + off) m (c - off) [102, 97, 108, 115, 101] (by rw [hm]; rfl) (fun i hi => ?_) 9 Tryz.underlying9).trans rfl
    have h5 := ((hH.more hW).drop off).cell i (by rw [List.length_drop]; omega)
    rw [h5, ← hv]
    congr 2
    rw [List.getD_eq_getElem?_getD, List.getD_eq_getElem?_getD, List.getElem?_take_of_lt hi]
  have k1 : ∀ W, Below w.heap.size w W → Calls Tryz.prog 83 #[.slice (some ⟨b, o + off, none⟩) (l.length - off) (c - off)] W fun e w' => e = .returned (.int .i64 m) ∧ Below W.heap.size W w' := by
    intro W hW
    have h := tE_.calls kt (some ⟨b, o + off, none⟩) (c - off) (l.drop off) m W (((hH.more hW).drop off).reads (by rw [List.length_drop]; omega)) (by rw [List.length_drop]; omega) hte
    rw [List.length_drop] at h
    exact h.mono (fun e w' hh => ⟨hh.1, hh.2.below⟩)
  have x0 : w.cell? ⟨b, o + off, none⟩ = some (.int .u8 102) := hH.at_ off 102 (by omega) hd
  have X0 := fun ob => keep_ x0 (below_alloc_ w ob)
  have HA := Aside0.mk (fun ob => below_alloc_ w ob)
  obtain ⟨n, hn⟩ : ∃ n, l.length = n := ⟨_, rfl⟩
  rw [hn] at k1 h2 hc hz
  rw [hn]
  have m0 : (off : Int) < (n : Int) := by omega
  have m1 : off < n := by omega
  have m2 : off ≤ n := by omega
  have m3 : (off : Int) ≤ (n : Int) := by omega
  have m4 : c ≠ off := by omega
  have m5 : off + m ≤ n := by omega
  have m6 : off + m ≤ c := by omega
  have m9 : IntKind.i64.wrap ((off : Int) + (m : Int)) = (off : Int) + m := by rw [IntKind.wrap_i64]; omega
  have ma : ((off : Int) + (m : Int)).toNat = off + m := by omega
  have mb : (off : Int) ≤ (off : Int) + m := by omega
  have mc : (off : Int) + (m : Int) ≤ (n : Int) := by omega
  have md : (off : Int) + (m : Int) ≤ (c : Int) := by omega
  have me : (0 : Int) ≤ (off : Int) + (m : Int) := by omega
  clear hte hH hG hn hz hd hv hm
  dsimp only [cfgV]
  go_enter Tryz.func70, Tryz.ntmps70
  go_wp2_with (go_at_call 83; (with_reducible refine (k1 _ (HA.out _)).mono ?_); rintro e w1 ⟨rfl, HB⟩; have HW1 := Aside0.mk (below_step (HA.out _) HB); have x5b := keep_ (X0 _) HB; have cv := hcv _ HW1.out; clear HB)
  refine bodyPost_ret (results_tmp4 rfl _ _ _) rfl ?_
  exact ⟨by simp, HW1.out⟩
set_option maxHeartbeats 4000000 in
set_option maxRecDepth 100000 in
theorem type_nul (kt : Nat) (b o c off m : Nat) (l : List Int) (w : World) (hc : l.length ≤ c) (hz : l.length ≤ 4611686018427387904) (hG : Glob w) (hH : Hd b o l w) (hm : m = 4) (h2 : off + m ≤ l.length) (hv : (l.drop off).take m = [110, 117, 108, 108])
    (hte : tE_.f kt (l.drop off) = some (m : Int)) :
    Calls Tryz.prog 70 #[cfgV, .slice (some ⟨b, o, none⟩) l.length c, .int .i64 off] w fun e w' => e = .returned (.tuple #[.slice (some ⟨b, o + off, none⟩) m (c - off), .int .i64 6, .int .i64 ((off : Int) + m), .nilIface]) ∧ Below w.heap.size w w' := by
  have h1 : 0 < m := by omega
  have hd : rd l (off : Int) = 110 := by
    have h3 := rd_drop_ l off 0
    have h4 : rd ((l.drop off).take m) 0 = rd (l.drop off) 0 := by
      unfold rd
      rw [hm]
      simp [List.getD_eq_getElem?_getD]
    rw [hv] at h4
    rw [show ((off : Int)) = ((off + 0 : Nat) : Int) by omega, ← h3]
    exact h4.symm
  have hcv : ∀ W, Below w.heap.size w W → (convert 51 9 (.slice (some ⟨b, o + off, none⟩) m (c - off))).run Tryz.prog W = .ok (.string ⟨#[110, 117, 108, 108]⟩) W := by
    intro W hW
    refine (run_convert_bytes_arg W 51 5 Tryz.underlying51 Tryz.underlying5 b (o + off) m (c - off) [110, 117, 108, 108] (by rw [hm]; rfl) (fun i hi => ?_) 9 Tryz.underlying9).trans rfl
    have h5 := ((hH.more hW).drop off).cell i (by rw [List.length_drop]; omega)
    rw [h5, ← hv]
    congr 2
    rw [List.getD_eq_getElem?_getD, List.getD_eq_getElem?_getD, List.getElem?_take_of_lt hi]
  have k1 : ∀ W, Below w.heap.size w W → Calls Tryz.prog 83 #[.slice (some ⟨b, o + off, none⟩) (l.length - off) (c - off)] W fun e w' => e = .returned (.int .i64 m) ∧ Below W.heap.size W w' := by
    intro W hW
    have h := tE_.calls kt (some ⟨b, o + off, none⟩) (c - off) (l.drop off) m W (((hH.more hW).drop off).reads (by rw [List.length_drop]; omega)) (by rw [List.length_drop]; omega) hte
    rw [List.length_drop] at h
    exact h.mono (fun e w' hh => ⟨hh.1, hh.2.below⟩)
  have x0 : w.cell? ⟨b, o + off, none⟩ = some (.int .u8 110) := hH.at_ off 110 (by omega) hd
  have X0 := fun ob => keep_ x0 (below_alloc_ w ob)
  have HA := Aside0.mk (fun ob => below_alloc_ w ob)
  obtain ⟨n, hn⟩ : ∃ n, l.length = n := ⟨_, rfl⟩
  rw [hn] at k1 h2 hc hz
  rw [hn]
  have m0 : (off : Int) < (n : Int) := by omega
  have m1 : off < n := by omega
  have m2 : off ≤ n := by omega
  have m3 : (off : Int) ≤ (n : Int) := by omega
  have m4 : c ≠ off := by omega
  have m5 : off + m ≤ n := by omega
  have m6 : off + m ≤ c := by omega
  have m9 : IntKind.i64.wrap ((off : Int) + (m : Int)) = (off : Int) + m := by rw [IntKind.wrap_i64]; omega
  have ma : ((off : Int) + (m : Int)).toNat = off + m := by omega
  have mb : (off : Int) ≤ (off : Int) + m := by omega
  have mc : (off : Int) + (m : Int) ≤ (n : Int) := by omega
  have md : (off : Int) + (m : Int) ≤ (c : Int) := by omega
  have me : (0 : Int) ≤ (off : Int) + (m : Int) := by omega
  clear hte hH hG hn hz hd hv hm
  dsimp only [cfgV]
  go_enter Tryz.func70, Tryz.ntmps70
  go_wp2_with (go_at_call 83; (with_reducible refine (k1 _ (HA.out _)).mono ?_); rintro e w1 ⟨rfl, HB⟩; have HW1 := Aside0.mk (below_step (HA.out _) HB); have x5b := keep_ (X0 _) HB; have cv := hcv _ HW1.out; clear HB)
  refine bodyPost_ret (results_tmp4 rfl _ _ _) rfl ?_
  exact ⟨by simp, HW1.out⟩
end Go.Proofs.YtpdohioobbfncaaGreatDoor.PFnJpWildStop/- A text in a block, windows of it, and getTypeConfig at a value of it; no condition beside those that each theorem states. -/
namespace Go.Proofs.YtpdohioobbfncaaGreatDoor.PFnJpWildStop
open Go.RowKit Go.Proofs.YtpdohioobbfncaaGreatDoorW.PrintWords Go.Proofs.YtpdohioobbfncaaGreatDoorW.PrintLast Go.Proofs.YtpdohioobbfncaaGreatDoorW.PrintMore
set_option linter.unusedVariables false
set_option linter.unusedSimpArgs false
/-- A text's bytes between two places. -/
def win (s : ByteArray) (a e : Nat) : List Int := (List.range (e - a)).map fun k => bt s ((a + k : Nat) : Int)
theorem win_len (s : ByteArray) (a e : Nat) : (win s a e).length = e - a := by simp [win]
theorem win_rd (s : ByteArray) (a e q : Nat) (h : q < e - a) : rd (win s a e) (q : Int) = bt s ((a + q : Nat) : Int) := by
  unfold rd win
  rw [List.getD_eq_getElem?_getD, Int.toNat_natCast, List.getElem?_map, List.getElem?_range h]
  rfl
theorem win_drop (s : ByteArray) (a e k : Nat) : (win s a e).drop k = win s (a + k) e := by
  apply List.ext_getElem?
  intro i
  rw [List.getElem?_drop]
  unfold win
  rw [List.getElem?_map, List.getElem?_map]
  by_cases h : k + i < e - a
  · rw [List.getElem?_range h, List.getElem?_range (by omega)]
    simp [Nat.add_assoc]
  · rw [List.getElem?_eq_none (by simp; omega), List.getElem?_eq_none (by simp; omega)]
    rfl
theorem win_take (s : ByteArray) (a e m : Nat) (h : m ≤ e - a) : (win s a e).take m = win s a (a + m) := by
  unfold win
  rw [← List.map_take, List.take_range, show min m (e - a) = a + m - a by omega]
theorem win_rng (s : ByteArray) (a e : Nat) : ∀ x ∈ win s a e, 0 ≤ x ∧ x < 256 := by
  intro x hx
  unfold win at hx
  obtain ⟨k, _, rfl⟩ := List.mem_map.1 hx
  unfold bt
  split
  · rename_i hk
    exact ⟨by omega, by have := UInt8.toNat_lt (s[((a + k : Nat) : Int).toNat]'hk); omega⟩
  · omega
/-- A block that holds a text from its begin on. -/
structure Tx (b : Nat) (s : ByteArray) (W : World) : Prop where
  cell : ∀ i : Nat, i < s.size → W.cell? ⟨b, i, none⟩ = some (.int .u8 (bt s (i : Int)))
theorem Tx.more {b : Nat} {s : ByteArray} {W W' : World} (h : Tx b s W) (hb : Below W.heap.size W W') : Tx b s W' := ⟨fun i hi => keep_ (h.cell i hi) hb⟩
theorem Tx.hd {b : Nat} {s : ByteArray} {W : World} (h : Tx b s W) (a e : Nat) (he : e ≤ s.size) : Hd b a (win s a e) W := by
  refine ⟨fun i hi => ?_⟩
  rw [win_len] at hi
  rw [h.cell (a + i) (by omega)]
  have := win_rd s a e i hi
  unfold rd at this
  rw [Int.toNat_natCast] at this
  rw [this]
theorem Tx.reads {b : Nat} {s : ByteArray} {W : World} (h : Tx b s W) (a e : Nat) (he : e ≤ s.size) (hz : s.size ≤ 2147483647) : Kd.C (Kd.int .u8) W (some ⟨b, a, none⟩) (e - a) (win s a e) := by
  have := (h.hd a e he).reads (by rw [win_len]; omega)
  rwa [win_len] at this
/-- What getTypeConfig looks at where a value stands. -/
inductive TV (s : ByteArray) (e x y : Nat) : Int → Prop
  | arr (k : Nat) (h : bt s (x : Int) = 91) (f : bEC_.f k false false 0 (win s x e) 91 93 = some ((y - x : Nat) : Int)) : TV s e x y 4
  | obj (k : Nat) (h : bt s (x : Int) = 123) (f : bEC_.f k false false 0 (win s x e) 123 125 = some ((y - x : Nat) : Int)) : TV s e x y 3
  | str (k : Nat) (es : Bool) (h : bt s (x : Int) = 34) (h2 : x + 2 ≤ y) (f : sEC_.f k false false 0 (win s (x + 1) e) 34 = some (((y - x - 1 : Nat) : Int), es)) : TV s e x y 1
  | num (k : Nat) (h : bt s (x : Int) = 45 ∨ (48 ≤ bt s (x : Int) ∧ bt s (x : Int) ≤ 57)) (f : tE_.f k (win s x e) = some ((y - x : Nat) : Int)) : TV s e x y 2
  | tru (k : Nat) (h : win s x y = [116, 114, 117, 101]) (f : tE_.f k (win s x e) = some ((y - x : Nat) : Int)) : TV s e x y 5
  | fls (k : Nat) (h : win s x y = [102, 97, 108, 115, 101]) (f : tE_.f k (win s x e) = some ((y - x : Nat) : Int)) : TV s e x y 5
  | nul (k : Nat) (h : win s x y = [110, 117, 108, 108]) (f : tE_.f k (win s x e) = some ((y - x : Nat) : Int)) : TV s e x y 6
theorem type_calls {s : ByteArray} {e x y : Nat} {kd : Int} (h : TV s e x y kd) (b a c : Nat) (w : World) (ha : a ≤ x) (hxy : x < y) (hy : y ≤ e) (he : e ≤ s.size) (hz : s.size ≤ 2147483647) (hc : e - a ≤ c) (hG : Glob w) (hT : Tx b s w) :
    Calls Tryz.prog 70 #[cfgV, .slice (some ⟨b, a, none⟩) (e - a) c, .int .i64 ((x - a : Nat) : Int)] w fun e' w' => e' = .returned (.tuple #[.slice (some ⟨b, x, none⟩) (y - x) (c - (x - a)), .int .i64 kd, .int .i64 ((y - a : Nat) : Int), .nilIface]) ∧ Below w.heap.size w w' := by
  have hH := hT.hd a e he
  have hl := win_len s a e
  have hd : ∀ k, (win s a e).drop (x - a + k) = win s (x + k) e := fun k => by rw [win_drop, show a + (x - a + k) = x + k by omega]
  have hd0 : (win s a e).drop (x - a) = win s x e := hd 0
  have hr : rd (win s a e) ((x - a : Nat) : Int) = bt s (x : Int) := by rw [win_rd s a e _ (by omega), show a + (x - a) = x by omega]
  have htk : ((win s a e).drop (x - a)).take (y - x) = win s x y := by rw [hd0, win_take s x e _ (by omega), show x + (y - x) = y by omega]
  have hlc : (win s a e).length ≤ c := by omega
  have hlz : (win s a e).length ≤ 4611686018427387904 := by omega
  have h2 : (x - a) + (y - x) ≤ (win s a e).length := by omega
  have e1 : ((x - a : Nat) : Int) + ((y - x : Nat) : Int) = ((y - a : Nat) : Int) := by omega
  have e2 : a + (x - a) = x := by omega
  have h1 : 0 < y - x := by omega
  cases h with
  | arr k h f =>
    have g := type_arr k b a c (x - a) (y - x) (win s a e) w hlc hlz hG hH h1 h2 (hr.trans h) (by rw [hd0]; exact f)
    rwa [hl, e1, e2] at g
  | obj k h f =>
    have g := type_obj k b a c (x - a) (y - x) (win s a e) w hlc hlz hG hH h1 h2 (hr.trans h) (by rw [hd0]; exact f)
    rwa [hl, e1, e2] at g
  | str k es h h3 f =>
    have g := type_str k b a c (x - a) (y - x - 1) (win s a e) w hlc hlz hG hH (by omega) (hr.trans h) (by omega) es (by rw [hd 1]; exact f)
    rwa [hl, show ((x - a : Nat) : Int) + (((y - x - 1 : Nat) : Int) + 1) = ((y - a : Nat) : Int) by omega, e2, show y - x - 1 + 1 = y - x by omega] at g
  | num k h f =>
    have g := type_num k b a c (x - a) (y - x) _ (win s a e) w hlc hlz hG hH h1 h2 hr (by omega) (by rw [hd0]; exact f)
    rwa [hl, e1, e2] at g
  | tru k h f =>
    have hm : y - x = 4 := by have := congrArg List.length h; rwa [win_len] at this
    have g := type_tru k b a c (x - a) (y - x) (win s a e) w hlc hlz hG hH hm h2 (htk.trans h) (by rw [hd0]; exact f)
    rwa [hl, e1, e2] at g
  | fls k h f =>
    have hm : y - x = 5 := by have := congrArg List.length h; rwa [win_len] at this
    have g := type_fls k b a c (x - a) (y - x) (win s a e) w hlc hlz hG hH hm h2 (htk.trans h) (by rw [hd0]; exact f)
    rwa [hl, e1, e2] at g
  | nul k h f =>
    have hm : y - x = 4 := by have := congrArg List.length h; rwa [win_len] at this
    have g := type_nul k b a c (x - a) (y - x) (win s a e) w hlc hlz hG hH hm h2 (htk.trans h) (by rw [hd0]; exact f)
    rwa [hl, e1, e2] at g
end Go.Proofs.YtpdohioobbfncaaGreatDoor.PFnJpWildStop