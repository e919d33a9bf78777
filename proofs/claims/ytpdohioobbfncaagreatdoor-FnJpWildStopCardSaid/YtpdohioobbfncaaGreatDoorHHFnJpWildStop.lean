/- A text's bytes from a place of a block on; what may be written: blocks of a kind, all others as they were; no condition beside those that each theorem states. -/
import Derived.Test.YtpdohioobbfncaaGreatDoorGXFnJpWildStop
import Derived.Test.YtpdohioobbfncaaGreatDoorPFnJpWildStopx0
import Derived.Lib.ConvBytes
import Derived.Laws.BytesArg
import Derived.Lib.LaidU8
namespace Go.Proofs.YtpdohioobbfncaaGreatDoor.PFnJpWildStop
open Go.RowKit Go.Proofs.YtpdohioobbfncaaGreatDoorW.PrintWords Go.Proofs.YtpdohioobbfncaaGreatDoorW.PrintLast Go.Proofs.YtpdohioobbfncaaGreatDoorW.PrintMore
set_option linter.unusedVariables false
set_option linter.unusedSimpArgs false
theorem below_alloc_ (w : World) (o : Obj) : Below w.heap.size w (w.alloc o) := by
  repeat (first | exact Below.refl _ _ | apply below_alloc)
theorem keep_ {W W' : World} {a : Addr} {v : Value} (h : W.cell? a = some v) (hb : Below W.heap.size W W') : W'.cell? a = some v := (hb.cell (World.block_lt_of_cell? W _ h)).trans h
abbrev cfgV : Value := .agg #[.bool false, .bool false, .int .i64 0]
/-- A text's bytes, from a place of a block on. -/
structure Hd (b o : Nat) (l : List Int) (W : World) : Prop where
  cell : ∀ i, i < l.length → W.cell? ⟨b, o + i, none⟩ = some (.int .u8 (l.getD i 0))
theorem Hd.more {b o : Nat} {l : List Int} {W W' : World} (h : Hd b o l W) (hb : Below W.heap.size W W') : Hd b o l W' := ⟨fun i hi => keep_ (h.cell i hi) hb⟩
theorem Hd.drop {b o : Nat} {l : List Int} {W : World} (h : Hd b o l W) (k : Nat) : Hd b (o + k) (l.drop k) W := by
  refine ⟨fun i hi => ?_⟩
  rw [List.length_drop] at hi
  rw [Nat.add_assoc, h.cell (k + i) (by omega)]
  simp [List.getD_eq_getElem?_getD, List.getElem?_drop]
theorem Hd.at_ {b o : Nat} {l : List Int} {W : World} (h : Hd b o l W) (i : Nat) (x : Int) (hi : i < l.length) (hx : rd l (i : Int) = x) : W.cell? ⟨b, o + i, none⟩ = some (.int .u8 x) := by
  rw [h.cell i hi, ← hx]
  rfl
theorem Hd.reads {b o : Nat} {l : List Int} {W : World} (h : Hd b o l W) (hz : l.length ≤ 9223372036854775807) : Kd.C (Kd.int .u8) W (some ⟨b, o, none⟩) l.length l := by
  refine Kd.C_of_reads (d := 0) (h1 := fun _ => rfl) ⟨rfl, hz, fun hn => ⟨_, rfl, fun j hj => ?_⟩⟩
  rw [← h.cell j hj]
  congr 1
  simp [Addr.add]
theorem below_setc {B g k : Nat} {w0 w : World} {v : Value} (h : Below B w0 w) (hg : B ≤ g) : Below B w0 (w.setCell ⟨g, k, none⟩ v) := h.setCell hg _
/-- Beside the blocks of a kind the world w' is as w was; the streams are as they were; no block has gone. -/
structure Bes (P : Nat → Prop) (w w' : World) : Prop where
  os : w'.os = w.os
  tape : w'.tape = w.tape
  output : w'.output = w.output
  size : w.heap.size ≤ w'.heap.size
  block : ∀ k, k < w.heap.size → ¬ P k → w'.heap[k]? = w.heap[k]?
theorem Bes.of_below {P : Nat → Prop} {w w' : World} (h : Below w.heap.size w w') : Bes P w w' := ⟨h.os, h.tape, h.output, h.size, fun k hk _ => h.block k hk⟩
theorem Bes.refl (P : Nat → Prop) (w : World) : Bes P w w := ⟨rfl, rfl, rfl, Nat.le_refl _, fun _ _ _ => rfl⟩
theorem Bes.trans {P : Nat → Prop} {a b c : World} (h : Bes P a b) (k : Bes P b c) : Bes P a c :=
  ⟨k.os.trans h.os, k.tape.trans h.tape, k.output.trans h.output, Nat.le_trans h.size k.size, fun i hi hp => (k.block i (Nat.lt_of_lt_of_le hi h.size) hp).trans (h.block i hi hp)⟩
theorem Bes.step {P : Nat → Prop} {a b c : World} (h : Bes P a b) (k : Below b.heap.size b c) : Bes P a c := h.trans (Bes.of_below k)
theorem Bes.below {P : Nat → Prop} {B : Nat} {w w' : World} (h : Bes P w w') (hB : B ≤ w.heap.size) (hP : ∀ k, P k → B ≤ k) : Below B w w' :=
  ⟨h.os, h.tape, h.output, h.size, fun k hk => h.block k (by omega) (fun hp => by have := hP k hp; omega)⟩
theorem Bes.cell {P : Nat → Prop} {w w' : World} (h : Bes P w w') {a : Addr} {v : Value} (hp : ¬ P a.block) (hv : w.cell? a = some v) : w'.cell? a = some v :=
  (World.cell?_of_block (w := w) (h.block a.block (World.block_lt_of_cell? w _ hv) hp)).trans hv
theorem Bes.set {P : Nat → Prop} {w w' : World} (h : Bes P w w') (g k : Nat) (v : Value) (hp : P g) : Bes P w (w'.setCell ⟨g, k, none⟩ v) :=
  ⟨h.os, h.tape, h.output, by have := h.size; simpa [World.setCell] using this, fun i hi hq => (Below.heap_setCell _ _ _ _ (fun e : i = g => hq (by rw [e]; exact hp))).trans (h.block i hi hq)⟩
theorem results_tmp4 {fn : Func} {t u v x : Tmp} (h : fn.results = #[.tmp t, .tmp u, .tmp v, .tmp x]) (tmps : Array Value) (P : Program) (w : World) :
    (results fn tmps).run P w = .ok (.tuple #[tmps.getD t undef, tmps.getD u undef, tmps.getD v undef, tmps.getD x undef]) w := by
  simp [results, h]
theorem results_tmp5 {fn : Func} {t u v x y : Tmp} (h : fn.results = #[.tmp t, .tmp u, .tmp v, .tmp x, .tmp y]) (tmps : Array Value) (P : Program) (w : World) :
    (results fn tmps).run P w = .ok (.tuple #[tmps.getD t undef, tmps.getD u undef, tmps.getD v undef, tmps.getD x undef, tmps.getD y undef]) w := by
  simp [results, h]
end Go.Proofs.YtpdohioobbfncaaGreatDoor.PFnJpWildStop