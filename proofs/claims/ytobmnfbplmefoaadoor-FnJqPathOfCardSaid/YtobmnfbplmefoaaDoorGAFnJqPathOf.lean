/- A package variable that is a table of bytes, listed: its cells; no condition beside those that each theorem states. -/
import Derived.Lib.LaidU8
import Derived.Test.YtobmnfbplmefoaaDoorProg
namespace Go.Proofs.YtobmnfbplmefoaaDoor.PFnJqPathOf
open Go.RowKit
theorem tab_of_reads {P : Program} {W : World} {n : String} {g t e m : Nat} {zs : List Int} (h : Lib.VarReads P W n (Lib.tabData .u8 zs))
    (hg : P.globalNamed n = some g) (ht : (P.globals[g]?).map (·.type) = some t) (hu : P.underlying t = some (.array m e)) (he : P.underlying e = some (.int .u8)) (ce : P.cellsOf e = 1) (ct : P.cellsOf t = m) (hm : zs.length = m) :
    ∀ c, c < m → W.cell? ⟨g, c, none⟩ = some (.int .u8 (zs.getD c 0)) := by
  intro c hc
  obtain ⟨g', t', cs, fuel, p, h1, h2, h3, h4⟩ := h
  obtain rfl := Option.some.inj (hg.symm.trans h1)
  obtain rfl := Option.some.inj (ht.symm.trans h2)
  have hcs := Lib.cells_of_tab hu he ce ct h4
  rw [World.var?_cell hg h3 c, ← Array.getElem?_toList, hcs]
  simp [List.getD_eq_getElem?_getD, show c < zs.length by omega]
end Go.Proofs.YtobmnfbplmefoaaDoor.PFnJqPathOf
