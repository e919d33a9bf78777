/- spec.Small, told by hand: the text's bytes in a row of the call's own, its letters made small in place; no condition beside those that each theorem states. -/
import Derived.Test.YtljmeaemonpkoaaDoorPFnMtNoCaseSmallx0
import Derived.Lib.ConvBytes
import Derived.Laws.BytesArg
namespace Go.Proofs.YtljmeaemonpkoaaDoor.PFnMtNoCaseSmall
open Go.RowKit Go.Proofs.YtljmeaemonpkoaaDoorW.PrintWords Go.Proofs.YtljmeaemonpkoaaDoorW.PrintLast Go.Proofs.YtljmeaemonpkoaaDoorW.PrintMore
set_option linter.unusedVariables false
set_option linter.unusedSimpArgs false
def sm (c : Int) : Int := if 65 ≤ c ∧ c ≤ 90 then c + 32 else c
def spec_Small.f (a0 : ByteArray) : Option ByteArray := if a0.size ≤ 4611686018427387904 then some (strOfNums ((bytesOf a0).map sm)) else none
/-- The row behind k rounds. -/
structure spec_Small.Mid (s : ByteArray) (w wr : World) (k : Nat) : Prop where
  below : Below w.heap.size w wr
  cell : ∀ j : Nat, j < s.size → wr.cell? ⟨w.heap.size, j, none⟩ = some (.int .u8 (if j < k then sm ((bytesOf s).getD j 0) else (bytesOf s).getD j 0))
  free : ∀ j : Nat, j < s.size → wr.frozen? ⟨w.heap.size, j, none⟩ = false
theorem bytesOf_at (s : ByteArray) (j : Nat) (h : j < s.size) : (bytesOf s).getD j 0 = ((s.data.toList.getD j 0).toNat : Int) := by
  have h' : j < s.data.toList.length := by rw [Array.length_toList]; exact h
  simp [bytesOf, List.getD_eq_getElem?_getD, List.getElem?_eq_getElem h']
theorem bytesOf_range (s : ByteArray) (j : Nat) : 0 ≤ (bytesOf s).getD j 0 ∧ (bytesOf s).getD j 0 ≤ 255 := by
  by_cases h : j < s.size
  · rw [bytesOf_at s j h]
    have := (s.data.toList.getD j 0).toNat_lt
    omega
  · rw [List.getD_eq_getElem?_getD, List.getElem?_eq_none (by rw [bytesOf_length]; omega)]
    simp
theorem spec_Small.start (s : ByteArray) (w : World) (e : TypeId) : Mid s w (Lib.bytesWorld w e s) 0 := by
  refine ⟨bytes_below (Below.refl _ _) (Nat.le_refl _) _ _, fun j hj => ?_, fun j hj => ?_⟩
  · rw [if_neg (by omega), bytesOf_at s j hj]
    exact Lib.bytesWorld_cell w e s j hj
  · have hsz : s.size ≤ (Lib.bytesCells w e s).size := by
      unfold Lib.bytesCells
      rw [Array.size_append, Array.size_map]
      exact Nat.le_add_right _ _
    unfold World.frozen?
    rw [Lib.bytesWorld_at_new]
    simp
    omega
theorem spec_Small.turn {s : ByteArray} {w wr : World} {k : Nat} (h : Mid s w wr k) (hk : k < s.size) (x : Int) (hx : x = sm ((bytesOf s).getD k 0)) : Mid s w (wr.setCell ⟨w.heap.size, k, none⟩ (.int .u8 x)) (k + 1) := by
  refine ⟨below_set h.below (Nat.le_refl _), fun j hj => ?_, fun j hj => ?_⟩
  · by_cases e : j = k
    · subst e
      rw [if_pos (by omega), ← hx]
      exact World.cell?_setCell_same' _ _ _ (by rw [h.cell j hj]; rfl)
    · rw [World.cell?_setCell_other _ _ _ _ (by intro h2; injection h2 with _ h2; exact e h2.symm), h.cell j hj]
      by_cases l : j < k
      · rw [if_pos l, if_pos (by omega)]
      · rw [if_neg l, if_neg (by omega)]
  · rw [World.frozen?_setCell]
    exact h.free j hj
theorem spec_Small.pass {s : ByteArray} {w wr : World} {k : Nat} (h : Mid s w wr k) (hs : sm ((bytesOf s).getD k 0) = (bytesOf s).getD k 0) : Mid s w wr (k + 1) := by
  refine ⟨h.below, fun j hj => ?_, h.free⟩
  rw [h.cell j hj]
  by_cases e : j = k
  · subst e
    rw [if_neg (by omega), if_pos (by omega), hs]
  · by_cases l : j < k
    · rw [if_pos l, if_pos (by omega)]
    · rw [if_neg l, if_neg (by omega)]
theorem spec_Small.done {P : Program} {s : ByteArray} {w wr : World} (h : Mid s w wr s.size) (src e : TypeId) (hs : P.underlying src = some (.slice e)) (he : P.underlying e = some (.int .u8)) (dst : TypeId) (hd : P.underlying dst = some .string) (cap : Nat) :
    (convert src dst (.slice (some ⟨w.heap.size, 0, none⟩) s.size cap)).run P wr = .ok (.string (strOfNums ((bytesOf s).map sm))) wr := by
  refine run_convert_bytes_arg wr src e hs he w.heap.size 0 s.size cap _ (by rw [List.length_map, bytesOf_length]) (fun i hi => ?_) dst hd
  rw [Nat.zero_add, h.cell i hi, if_pos hi]
  congr 2
  have h' : i < (bytesOf s).length := by rw [bytesOf_length]; exact hi
  rw [List.getD_eq_getElem?_getD, List.getD_eq_getElem?_getD, List.getElem?_map, List.getElem?_eq_getElem h']
  rfl
set_option maxHeartbeats 4000000 in
set_option maxRecDepth 100000 in
theorem spec_Small.calls (a0 : ByteArray) (r : ByteArray) (w : World) (h : spec_Small.f a0 = some r) :
    Calls Tryd.prog 18 #[.string a0] w fun e w' => e = .returned (.string r) ∧ Below w.heap.size w w' := by
  have hsz : a0.size ≤ 4611686018427387904 := by
    apply Decidable.byContradiction
    intro hn
    unfold spec_Small.f at h
    rw [if_neg hn] at h
    cases h
  unfold spec_Small.f at h
  rw [if_pos hsz] at h
  obtain rfl := Option.some.inj h
  clear h
  have kb := fun W => print_bytes (P := Tryd.prog) 9 39 5 Tryd.underlying9 Tryd.underlying39 Tryd.underlying5 a0 W
  have HM := Aside0.mk (spec_Small.start a0 w 5)
  go_enter Tryd.func18, Tryd.ntmps18
  go_wp2
  generalize grownCap w a0.size 0 5 = cap
  generalize Lib.bytesWorld w 5 a0 = W1 at HM ⊢
  clear kb
  go_loopw [10] (fun i wr => ∃ k : Nat, i = .int .i64 k ∧ Aside0 (k ≤ a0.size) ∧ Aside0 (spec_Small.Mid a0 w wr k)) (fun i _ => a0.size - (intOf i).toNat)
  case atStart => exact ⟨0, rfl, ⟨Nat.zero_le _⟩, HM⟩
  case round =>
    clear HM
    obtain ⟨k, rfl, HK, HM⟩ := hrel
    by_cases hk : k < a0.size
    · have hx := HM.out.cell k hk
      have hf := HM.out.free k hk
      rw [if_neg (Nat.lt_irrefl k)] at hx
      have hr := bytesOf_range a0 k
      obtain ⟨c, hc⟩ : ∃ c, (bytesOf a0).getD k 0 = c := ⟨_, rfl⟩
      rw [hc] at hx hr
      have HC := Aside0.mk hc
      have HR := Aside0.mk hr
      have HL := Aside0.mk hk
      clear hc hr
      have d1 : decide ((k : Int) < (a0.size : Int)) = true := decide_eq_true (by omega)
      have d2 : decide (k < a0.size) = true := decide_eq_true hk
      by_cases c1 : 65 ≤ c
      · have e1 : decide (65 ≤ c) = true := decide_eq_true c1
        by_cases c2 : c ≤ 90
        · have e2 : decide (c ≤ 90) = true := decide_eq_true c2
          have HX := Aside0.mk (show c + 32 = sm ((bytesOf a0).getD k 0) by rw [HC.out]; unfold sm; rw [if_pos ⟨c1, c2⟩])
          have ew : IntKind.u8.wrap (c + 32) = c + 32 := by have := HR.out; rw [IntKind.wrap_u8]; omega
          clear c1 c2
          go_wp2
          go_roundw
          case rel => exact ⟨k + 1, by go_num, ⟨HL.out⟩, ⟨spec_Small.turn HM.out HL.out _ HX.out⟩⟩
          case measure => have := HL.out; simp [intOf]; omega
        · have e2 : decide (c ≤ 90) = false := decide_eq_false c2
          have HX := Aside0.mk (show sm ((bytesOf a0).getD k 0) = (bytesOf a0).getD k 0 by rw [HC.out]; unfold sm; rw [if_neg (fun h => c2 h.2)])
          clear c1 c2
          go_wp2
          go_roundw
          case rel => exact ⟨k + 1, by go_num, ⟨HL.out⟩, ⟨spec_Small.pass HM.out HX.out⟩⟩
          case measure => have := HL.out; simp [intOf]; omega
      · have e1 : decide (65 ≤ c) = false := decide_eq_false c1
        have HX := Aside0.mk (show sm ((bytesOf a0).getD k 0) = (bytesOf a0).getD k 0 by rw [HC.out]; unfold sm; rw [if_neg (fun h => c1 h.1)])
        clear c1
        go_wp2
        go_roundw
        case rel => exact ⟨k + 1, by go_num, ⟨HL.out⟩, ⟨spec_Small.pass HM.out HX.out⟩⟩
        case measure => have := HL.out; simp [intOf]; omega
    · obtain rfl : k = a0.size := by have := HK.out; omega
      have d1 : decide (((a0.size : Nat) : Int) < (a0.size : Int)) = false := decide_eq_false (by omega)
      have hcv := spec_Small.done HM.out 39 5 Tryd.underlying39 Tryd.underlying5 9 Tryd.underlying9 cap
      clear hk
      go_wp2
      go_ret
      exact ⟨rfl, HM.out.below⟩
end Go.Proofs.YtljmeaemonpkoaaDoor.PFnMtNoCaseSmall
