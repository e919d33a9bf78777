/- A slice of strings that came in, as a list; no condition beside those that each theorem states. -/
import Derived.Test.YtobmnfbplmefoaaDoorWMore
namespace Go.Proofs.YtobmnfbplmefoaaDoorW.PrintWords
open Go.RowKit
set_option linter.unusedVariables false
set_option linter.unusedSimpArgs false
theorem strs_row {w : World} {a : Option Addr} {len cap : Nat} {zs : List ByteArray} (h : (a = none ∧ len = 0 ∧ cap = 0 ∧ zs = []) ∨ ∃ x, a = some x ∧ len ≤ cap ∧ cap ≤ maxLen ∧ zs.length = cap ∧ (∀ i, i < zs.length → w.cell? (x.add i) = some (.string (zs.getD i ByteArray.empty))) ∧ ∀ s ∈ zs, s.size ≤ maxLen) :
    ∃ l : List ByteArray, len = l.length ∧ Kd.C Kd.string w a l.length l ∧ l.length ≤ maxLen ∧ (∀ s ∈ l, s.size ≤ maxLen) ∧ l.length ≤ cap := by
  rcases h with ⟨rfl, rfl, rfl, rfl⟩ | ⟨x, rfl, hl, hm, hz, hc, hs⟩
  · exact ⟨[], rfl, Kd.C_of_reads (d := ByteArray.empty) (h1 := fun _ => rfl) ⟨rfl, by simp, fun hn => absurd hn (by simp)⟩, by simp, by simp, by simp⟩
  · have hlen : (zs.take len).length = len := by rw [List.length_take]; omega
    have hmx : len ≤ 9223372036854775807 := by have := hm; simp only [maxLen] at this; omega
    refine ⟨zs.take len, hlen.symm, Kd.C_of_reads (d := ByteArray.empty) (h1 := fun _ => rfl) ⟨rfl, by rw [hlen]; exact hmx, fun hn => ⟨x, rfl, fun j hj => ?_⟩⟩, by rw [hlen]; exact Nat.le_trans hl hm, fun s hs2 => hs s (List.mem_of_mem_take hs2), by rw [hlen]; exact hl⟩
    rw [hlen] at hj
    rw [hc j (by omega)]
    congr 2
    simp [List.getD_eq_getElem?_getD, List.getElem?_take, hj]
end Go.Proofs.YtobmnfbplmefoaaDoorW.PrintWords
