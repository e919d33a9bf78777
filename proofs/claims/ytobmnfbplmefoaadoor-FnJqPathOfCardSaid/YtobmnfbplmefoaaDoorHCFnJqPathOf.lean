/- jsonparser's zzCount of a text of one byte, told by hand; no condition beside those that each theorem states. -/
import Derived.Test.YtobmnfbplmefoaaDoorPFnJqPathOfx0
import Derived.Laws.DeepStrings4
namespace Go.Proofs.YtobmnfbplmefoaaDoor.PFnJqPathOf
open Go.RowKit Go.Proofs.YtobmnfbplmefoaaDoorW.PrintWords Go.Proofs.YtobmnfbplmefoaaDoorW.PrintLast Go.Proofs.YtobmnfbplmefoaaDoorW.PrintMore
set_option linter.unusedVariables false
set_option linter.unusedSimpArgs false
/-- How often a text of one byte stands ahead of a place. -/
def cnt (s t : ByteArray) : Nat → Nat
  | 0 => 0
  | i + 1 => if (s.extract i (i + 1)).toList = t.toList then cnt s t i + 1 else cnt s t i
theorem cnt_le (s t : ByteArray) (i : Nat) : cnt s t i ≤ i := by
  induction i with
  | zero => exact Nat.le_refl _
  | succ i ih => rw [cnt]; split <;> omega
def jsonparser_zzCount.f (a0 : ByteArray) (a1 : ByteArray) : Option Int := if a1.size = 1 ∧ a0.size ≤ 4611686018427387904 then some (cnt a0 a1 a0.size : Int) else none
set_option maxHeartbeats 4000000 in
set_option maxRecDepth 100000 in
theorem jsonparser_zzCount.calls (a0 : ByteArray) (a1 : ByteArray) (r : Int) (w : World) (h : jsonparser_zzCount.f a0 a1 = some r) :
    Calls Tryd.prog 19 #[.string a0, .string a1] w fun e w' => e = .returned (.int .i64 r) ∧ Drawn0 w w' := by
  unfold jsonparser_zzCount.f at h
  split at h
  · rename_i hh
    obtain ⟨h1, hz⟩ := hh
    obtain rfl := Option.some.inj h
    clear h
    have HZ := Aside0.mk hz
    have HR := Aside0.mk (Drawn0.refl w)
    have hz' : (a0.size : Int) ≤ 4611686018427387904 := by omega
    clear hz
    go_enter Tryd.func19, Tryd.ntmps19
    go_wp2
    go_loop [5, 6] (fun vn vi => ∃ i : Nat, vi = .int .i64 i ∧ vn = .int .i64 (cnt a0 a1 i) ∧ Aside0 (i ≤ a0.size)) (fun _ vi => a0.size - (intOf vi).toNat)
    case atStart => exact ⟨0, rfl, rfl, ⟨Nat.zero_le _⟩⟩
    case round =>
      obtain ⟨i, rfl, rfl, HI⟩ := hrel
      have hi := HI.out
      have hc := cnt_le a0 a1 i
      have hc' : (cnt a0 a1 i : Int) ≤ 4611686018427387904 := by omega
      have hi' : (i : Int) ≤ 4611686018427387904 := by omega
      by_cases hlt : i < a0.size
      · have d1 : decide ((i : Int) + 1 ≤ (a0.size : Int)) = true := decide_eq_true (by omega)
        have d2 : (i : Int) + 1 ≤ (a0.size : Int) := by omega
        have d3 : i + 1 ≤ a0.size := hlt
        have d4 : decide (0 ≤ (i : Int)) = true := decide_eq_true (by omega)
        have d5 : decide ((i : Int) ≤ (i : Int) + 1) = true := decide_eq_true (by omega)
        have d6 : 0 ≤ (i : Int) := by omega
        have d7 : 0 ≤ (i : Int) + 1 := by omega
        have d8 : ((i : Int) + 1).toNat = i + 1 := by omega
        by_cases he : (a0.extract i (i + 1)).toList = a1.toList
        · have e1 : ((a0.extract i (i + 1)).toList == a1.toList) = true := beq_iff_eq.2 he
          have HN := Aside0.mk (show cnt a0 a1 (i + 1) = cnt a0 a1 i + 1 by rw [cnt, if_pos he])
          clear he hi hc
          go_wp2
          go_round
          case rel => exact ⟨i + 1, by go_num, by rw [HN.out]; go_num, ⟨d3⟩⟩
          case measure => simp [intOf]; omega
        · have e1 : ((a0.extract i (i + 1)).toList == a1.toList) = false := beq_eq_false_iff_ne.2 he
          have HN := Aside0.mk (show cnt a0 a1 (i + 1) = cnt a0 a1 i by rw [cnt, if_neg he])
          clear he hi hc
          go_wp2
          go_round
          case rel => exact ⟨i + 1, by go_num, by rw [HN.out], ⟨d3⟩⟩
          case measure => simp [intOf]; omega
      · obtain rfl : i = a0.size := by omega
        have d1 : decide ((a0.size : Int) + 1 ≤ (a0.size : Int)) = false := decide_eq_false (by omega)
        have d2 : ((a0.size : Int) + 1 ≤ (a0.size : Int)) = False := eq_false (by omega)
        clear hlt hi
        go_wp2
        go_ret
        exact ⟨rfl, HR.out⟩
  · cases h
end Go.Proofs.YtobmnfbplmefoaaDoor.PFnJqPathOf
