/- '[]byte(s)', read only: a row that is shared, whose letters are the text's bytes; no condition beside those that each theorem states. -/
import Derived.Test.YtobmnfbplmefoaaDoorWMore
import Derived.Lib.ConvBytes
namespace Go.Proofs.YtobmnfbplmefoaaDoorW.PrintWords
open Go.RowKit
namespace Kd
section
variable {P : Program} {ops : Array Oper} {rest : List Oper} {o : Oper} {a : Act} {Q : Exit → Act → World → Prop}
theorem V_bytes {w0 W : World} (base e : Nat) (hgd : o.guard = none) {N : Tmp} (_hd : o.dst = some N) (src dst : TypeId) (x : Operand) (ho : o.op = .convert src dst x) (s : ByteArray) (hx : a.eval x = .string s) {u : TypeDesc}
    (hs : P.underlying src = some u) (ht : P.underlying dst = some (.slice e)) (he : P.underlying e = some (.int .u8)) {ok : Nat → Prop} (hfresh : ok W.heap.size) (hz : s.size ≤ 9223372036854775807) (HB : Below base w0 W) (hbase : base ≤ W.heap.size)
    (h : ∀ v1 w1, V (Kd.int .u8) e w1 base ok v1 (bytesOf s) → Below base w0 w1 → W.grownBy w1 none → (∃ b, v1.ownBlock = some b ∧ W.heap.size ≤ b) → wpList P ops Q rest (a.put o.dst v1) w1) : wpList P ops Q (o :: rest) a W := by
  have hb : Below W.heap.size W (Lib.bytesWorld W e s) := bytes_below (Below.refl _ _) (Nat.le_refl _) e s
  have hr := Lib.run_convert_string_bytes (P := P) W src dst e s hs ht he
  refine event_run hgd (v := .slice (some ⟨W.heap.size, 0, none⟩) s.size (grownCap W s.size 0 e)) (w1 := Lib.bytesWorld W e s) ?_ (h _ _ ?_ (bytes_below HB hbase e s) ⟨hb.os, hb.tape, hb.output, hb.size, fun k hk _ => hb.block k hk⟩ ⟨W.heap.size, by simp [Value.ownBlock], Nat.le_refl _⟩)
  · simp [execOp, ho, hx, hr]
  · refine ⟨some ⟨W.heap.size, 0, none⟩, grownCap W s.size 0 e, by rw [bytesOf_length], ?_, fun W' hW => ?_⟩
    · rw [bytesOf_length]
      exact grownCap_ge _ _ _ _
    · refine C_of_reads (d := 0) (h1 := fun _ => rfl) ?_
      have hrd := bytes_reads W e s hz
      rw [bytesOf_length]
      refine ⟨hrd.1, hrd.2.1, fun hn => ?_⟩
      obtain ⟨ad, hA, hc⟩ := hrd.2.2 hn
      refine ⟨ad, hA, fun j hj => ?_⟩
      rw [← hc j hj]
      obtain rfl := Option.some.inj hA
      apply World.cell?_of_block
      rw [add_plain]
      exact hW _ hfresh (by show W.heap.size < _; rw [Lib.bytesWorld_size]; omega)
end
end Kd
end Go.Proofs.YtobmnfbplmefoaaDoorW.PrintWords
