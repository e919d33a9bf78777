/- The reference's Dress of a string without code, told by hand; no condition beside those that each theorem states. -/
import Derived.Test.YtobmnfbplmefoaaDoorHDFnJqPathOf
import Derived.Test.YtobmnfbplmefoaaDoorPFnJqPathOfx1
import Derived.Laws.DeepStrings4
import Derived.Lib.AppendStr
import Derived.Outline
namespace Go.Proofs.YtobmnfbplmefoaaDoor.PFnJqPathOf
open Go.RowKit Go.Proofs.YtobmnfbplmefoaaDoorW.PrintWords Go.Proofs.YtobmnfbplmefoaaDoorW.PrintLast Go.Proofs.YtobmnfbplmefoaaDoorW.PrintMore
set_option linter.unusedVariables false
set_option linter.unusedSimpArgs false
/-- append of a piece of a text, as a step of a region that draws its order. -/
theorem dr_str_step {ops : Array Oper} {o : Oper} {a : Act} {K : Act → World → Prop} {Q : Exit → Act → World → Prop} {E : Prop} (hg : o.guard = none) (s x : Operand) (hop : o.op = Op.call { callee := Callee.builtin Builtin.append, args := #[s, x], argTypes := #[23, 9] })
    {base d : Nat} {A1 : Option Addr} {c1 : Nat} {v : Value} {l : List Int} {w0 W : World} (h : Dr base d A1 c1 v l w0 W) (y : ByteArray) (hs : a.eval s = v) (hx : a.eval x = .string y) (hl : l.length + y.size ≤ 140737488355328)
    (hK : ∀ (A2 : Option Addr) (c2 : Nat) (l2 : List Int) (W1 : World), l2 = l ++ bytesOf y → Dp base d A1 c1 v (.slice A2 l2.length c2) l2 w0 W1 → K (a.put o.dst (.slice A2 l2.length c2)) W1) :
    if Region.wanted o (yielded ops a.tmps) = true then Oper.wp Tryd.prog o a W K Q else E := by
  obtain ⟨i0, hi, hzz⟩ := Option.map_eq_some_iff.1 info5
  simp only [Prod.mk.injEq] at hzz
  obtain ⟨hz0, hz1, hz2⟩ := hzz
  have hw : Region.wanted o (yielded ops a.tmps) = true := by simp [Region.wanted, hg]
  rw [if_pos hw]
  obtain ⟨v', w', hr, h2, h3, h4⟩ := Lib.run_append_own_string (P := Tryd.prog) W base 23 9 o.type 5 i0 Tryd.underlying23 Tryd.underlying9 hi hz0 hz1 hz2 v l.length (nums .u8 l) h.row y (by simp only [maxLen]; omega) hl h.hw
  have hcell : nums .u8 (l ++ bytesOf y) = nums .u8 l ++ Lib.strCells y := by
    rw [nums_append]
    congr 1
    simp [nums, bytesOf, Lib.strCells]
  have hlen : (l ++ bytesOf y).length = l.length + y.size := by rw [List.length_append, bytesOf_length]
  have hrow : w'.ownsRow base 5 1 v' (l ++ bytesOf y).length (nums .u8 (l ++ bytesOf y)) := by
    rw [hlen, hcell]
    exact h2
  obtain ⟨A2, c2, rfl⟩ := own_slice hrow
  have h5 := hK A2 c2 _ w' rfl (h.grow (h.below.grown h3 h.hw (own_base h.row)) hrow h3)
  unfold Oper.wp execOp
  simp only [hop, resolve, invoke, builtin, Sem.run_bind, Sem.run_pure, Result.andThen_ok, List.map_toArray, List.map_cons, List.map_nil, hs, hx, hr]
  exact h5
end Go.Proofs.YtobmnfbplmefoaaDoor.PFnJqPathOf
