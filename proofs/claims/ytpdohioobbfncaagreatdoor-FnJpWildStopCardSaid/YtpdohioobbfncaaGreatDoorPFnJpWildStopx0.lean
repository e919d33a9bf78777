/- what the Go functions that the law FnJpWildStop reaches compute, each as a plain function, with the proof that the Go code computes just that; no condition beside those that each theorem states. -/
import Derived.Test.YtpdohioobbfncaaGreatDoorProg
import Derived.Below
import Derived.Deep.Draws
import Derived.Deep.AppendLies
import Derived.Maps.AppendAt
import Derived.OwnWalk
import Derived.Laws.BytesArg
import Derived.Laws.MakeOwn
import Derived.Laws.OwnMore
import Derived.Deep.OwnRows
import Derived.Tactics
import Derived.Lib.ConvBytes
import Derived.Laws.Slices
import Derived.WalkKit
import Derived.KernelRfl
import Derived.RowKit3
import Derived.Deep.LoopGhost
import Derived.Deep.QuietTactic
import Derived.BigQuiet
import Derived.WideLaws
import Derived.Deep.DeepCutAuto
import Derived.Deep.CutBlock
import Derived.Deep.RegionHeld3
import Derived.Laws.Rows
import Derived.Lib.AppendStr
import Derived.ArgAppend
import Derived.Laws.IdiomCopy
import Derived.OrdersHeld
import Derived.Laws.BitsLemmas
import Derived.RowKit
import Derived.Test.YtpdohioobbfncaaGreatDoorWordsFnJpWildStop
namespace Go.Proofs.YtpdohioobbfncaaGreatDoor.PFnJpWildStop
open Go.RowKit Go.Proofs.YtpdohioobbfncaaGreatDoorW.PrintWords Go.Proofs.YtpdohioobbfncaaGreatDoorW.PrintLast Go.Proofs.YtpdohioobbfncaaGreatDoorW.PrintMore
set_option linter.unusedVariables false
set_option linter.unusedSimpArgs false
def errX : Option Int → TypeId × Value → Value
  | none, _ => .nilIface
  | some _, ev => .iface ev.1 ev.2
theorem errX_none (ev : TypeId × Value) : errX none ev = .nilIface := rfl
theorem errX_some (c : Int) (ev : TypeId × Value) : errX (some c) ev = .iface ev.1 ev.2 := rfl
theorem nil_ne_ (l : List UInt8) : (l != []) = !l.isEmpty := by cases l <;> rfl
theorem nil_eq_ (l : List UInt8) : (l == []) = l.isEmpty := by cases l <;> rfl
theorem bt_lit (s : ByteArray) (n : Nat) (z : Int) (hz : z.toNat = n) : ∀ h : n < s.size, ((s[n]'h).toNat : Int) = bt s z := by
  subst hz; exact bt_at s z
theorem info5 : (Tryz.prog.info? 5).map (fun i => (i.zero, i.size, i.bytes)) = some (some (.int .u8 0), 1, 1) := by kernel_rfl
theorem info9 : (Tryz.prog.info? 9).map (fun i => (i.zero, i.size, i.bytes)) = some (some (.string ⟨#[]⟩), 1, 16) := by kernel_rfl
theorem info27 : (Tryz.prog.info? 27).map (fun i => (i.zero, i.size, i.bytes)) = some (some (.agg #[(.int .i64 0), (.int .i64 0), (.int .i64 0), (.slice none 0 0), (.slice none 0 0)]), 5, 72) := by kernel_rfl
theorem info64 : (Tryz.prog.info? 64).map (fun i => (i.zero, i.size, i.bytes)) = some (some (.agg #[(.int .i64 0), (.int .i64 0)]), 2, 16) := by kernel_rfl
structure S64 where
  f0 : Int
  f1 : Int
def z64 : S64 := ⟨(0 : Int), (0 : Int)⟩
def k64 : Kd S64 := Kd.iso (Kd.pair (Kd.int .i64) (Kd.int .i64)) (fun x : S64 => (x.f0, x.f1))
theorem k64_open {w : World} {x : S64} {cs : List Value} (h : k64.K w x cs) : cs = [.int .i64 x.f0, .int .i64 x.f1] := by
  obtain ⟨_, _, rfl, rfl, rfl⟩ := h
  exact rfl
theorem k64_mkM (w : World) (base : Nat) (ok : Nat → Prop) (x : S64)  : k64.M w base ok x [.int .i64 x.f0, .int .i64 x.f1] := ⟨[.int .i64 x.f0], [.int .i64 x.f1], rfl, rfl, rfl⟩
def rd_T64 (xs : List S64) (i : Int) : S64 := xs.getD i.toNat z64
theorem at_T64 {w : World} {A : Option Addr} {n : Nat} {xs : List S64} (h : Kd.C k64 w A n xs) (i : Int) (h0 : 0 ≤ i) (h1 : i < n) : ∃ ad , A = some ad ∧ w.cell? (ad.add (i.toNat * 2)) = some (.int .i64 (rd_T64 xs i).f0) ∧ w.cell? ⟨(ad.add (i.toNat * 2)).block, (ad.add (i.toNat * 2)).off + 1, none⟩ = some (.int .i64 (rd_T64 xs i).f1) := by
  obtain ⟨ad, c, e, _, hK, hc0⟩ := Kd.C_get h z64 i h0 h1
  have hc : ∀ j u, c[j]? = some u → w.cell? (ad.add (i.toNat * 2 + j)) = some u := hc0
  obtain rfl := k64_open hK
  exact ⟨ad, e, hc 0 _ rfl, by rw [← add_field _ _ 1 (by omega)]; exact hc 1 _ rfl⟩
structure S27 where
  f0 : Int
  f1 : Int
  f2 : Int
  f3 : (List S64)
  f4 : (List S27)
def z27 : S27 := ⟨(0 : Int), (0 : Int), (0 : Int), ([] : List S64), ([] : List S27)⟩
def F27 (d : Kd S27) : Kd S27 := Kd.iso (Kd.pair (Kd.int .i64) (Kd.pair (Kd.int .i64) (Kd.pair (Kd.int .i64) (Kd.pair (Kd.slice 64 k64) (Kd.slice 27 d))))) (fun x : S27 => (x.f0, x.f1, x.f2, x.f3, x.f4))
theorem mono27 : Kd.Mono F27 := Kd.mono_iso _ (Kd.mono_pair (Kd.mono_const _) (Kd.mono_pair (Kd.mono_const _) (Kd.mono_pair (Kd.mono_const _) (Kd.mono_pair (Kd.mono_const _) (Kd.mono_slice 27 Kd.mono_id)))))
theorem sub27 : Kd.Sub F27 [27, 64] := Kd.sub_iso _ (Kd.sub_pair (Kd.sub_const _ (by decide)) (Kd.sub_pair (Kd.sub_const _ (by decide)) (Kd.sub_pair (Kd.sub_const _ (by decide)) (Kd.sub_pair (Kd.sub_const _ (by decide)) (Kd.sub_slice 27 (by decide) Kd.sub_id)))))
theorem sz27 : ∀ n, (Kd.upto F27 5 [27, 64] n).sz = 5 := Kd.upto_sz (fun _ => rfl)
def k27 : Kd S27 := Kd.fix F27 5 [27, 64] sz27 (Kd.upto_E sub27)
theorem k27_open {w : World} {x : S27} {cs : List Value} (h : k27.K w x cs) : ∃ A3 c3 A4 c4, cs = [.int .i64 x.f0, .int .i64 x.f1, .int .i64 x.f2, .slice A3 x.f3.length c3, .slice A4 x.f4.length c4] ∧ x.f3.length ≤ c3 ∧ k64.C w A3 x.f3.length x.f3 ∧ x.f4.length ≤ c4 ∧ k27.C w A4 x.f4.length x.f4 := by
  obtain ⟨n, h⟩ := h
  rcases n with _ | n
  · exact h.elim
  obtain ⟨_, _, rfl, rfl, ⟨_, _, rfl, rfl, ⟨_, _, rfl, rfl, ⟨_, _, rfl, ⟨A3, c3, rfl, l3, g3⟩, ⟨A4, c4, rfl, l4, g4⟩⟩⟩⟩⟩ := h
  exact ⟨A3, c3, A4, c4, rfl, l3, g3, l4, Kd.fix_C g4⟩
theorem k27_mkM (w : World) (base : Nat) (ok : Nat → Prop) (x : S27) {v3 : Value} (g3 : k64.R 64 w base ok v3 x.f3) {v4 : Value} (g4 : k27.R 27 w base ok v4 x.f4) : k27.M w base ok x [.int .i64 x.f0, .int .i64 x.f1, .int .i64 x.f2, v3, v4] := by
  obtain ⟨n4, q4⟩ := Kd.fix_R_back mono27 g4
  have r4 := Kd.upto_R_le mono27 sz27 (show n4 ≤ n4 by omega) q4
  exact ⟨n4 + 1, ⟨[.int .i64 x.f0], [.int .i64 x.f1, .int .i64 x.f2, v3, v4], rfl, rfl, ⟨[.int .i64 x.f1], [.int .i64 x.f2, v3, v4], rfl, rfl, ⟨[.int .i64 x.f2], [v3, v4], rfl, rfl, ⟨[v3], [v4], rfl, ⟨v3, rfl, g3⟩, ⟨v4, rfl, r4⟩⟩⟩⟩⟩⟩
theorem k27_openF {W : World} {ok : Nat → Prop} {x : S27} {cs : List Value} (h : Kd.FK k27 W ok x cs) : ∃ A3 c3 A4 c4, cs = [.int .i64 x.f0, .int .i64 x.f1, .int .i64 x.f2, .slice A3 x.f3.length c3, .slice A4 x.f4.length c4] ∧ x.f3.length ≤ c3 ∧ Kd.F k64 W ok A3 x.f3.length x.f3 ∧ x.f4.length ≤ c4 ∧ Kd.F k27 W ok A4 x.f4.length x.f4 := by
  obtain ⟨A3, c3, A4, c4, rfl, l3, _, l4, _⟩ := k27_open (Kd.FK_now h)
  exact ⟨A3, c3, A4, c4, rfl, l3, (fun W' hW => by obtain ⟨A3_, c3_, A4_, c4_, he, l3_, g3_, l4_, g4_⟩ := k27_open (h W' hW); injection (Option.some.inj (show some (Value.slice A3 x.f3.length c3) = some (Value.slice A3_ x.f3.length c3_) from congrArg (fun l => l[3]?) he)) with ha_ _ _; rw [ha_]; exact g3_), l4, (fun W' hW => by obtain ⟨A3_, c3_, A4_, c4_, he, l3_, g3_, l4_, g4_⟩ := k27_open (h W' hW); injection (Option.some.inj (show some (Value.slice A4 x.f4.length c4) = some (Value.slice A4_ x.f4.length c4_) from congrArg (fun l => l[4]?) he)) with ha_ _ _; rw [ha_]; exact g4_)⟩
def rd_T27 (xs : List S27) (i : Int) : S27 := xs.getD i.toNat z27
theorem at_T27 {w : World} {A : Option Addr} {n : Nat} {xs : List S27} (h : Kd.C k27 w A n xs) (i : Int) (h0 : 0 ≤ i) (h1 : i < n) : ∃ ad A3 c3 A4 c4, A = some ad ∧ w.cell? (ad.add (i.toNat * 5)) = some (.int .i64 (rd_T27 xs i).f0) ∧ w.cell? ⟨(ad.add (i.toNat * 5)).block, (ad.add (i.toNat * 5)).off + 1, none⟩ = some (.int .i64 (rd_T27 xs i).f1) ∧ w.cell? ⟨(ad.add (i.toNat * 5)).block, (ad.add (i.toNat * 5)).off + 2, none⟩ = some (.int .i64 (rd_T27 xs i).f2) ∧ w.cell? ⟨(ad.add (i.toNat * 5)).block, (ad.add (i.toNat * 5)).off + 3, none⟩ = some (.slice A3 (rd_T27 xs i).f3.length c3) ∧ w.cell? ⟨(ad.add (i.toNat * 5)).block, (ad.add (i.toNat * 5)).off + 4, none⟩ = some (.slice A4 (rd_T27 xs i).f4.length c4) ∧ (rd_T27 xs i).f3.length ≤ c3 ∧ k64.C w A3 (rd_T27 xs i).f3.length (rd_T27 xs i).f3 ∧ (rd_T27 xs i).f4.length ≤ c4 ∧ k27.C w A4 (rd_T27 xs i).f4.length (rd_T27 xs i).f4 := by
  obtain ⟨ad, c, e, _, hK, hc0⟩ := Kd.C_get h z27 i h0 h1
  have hc : ∀ j u, c[j]? = some u → w.cell? (ad.add (i.toNat * 5 + j)) = some u := hc0
  obtain ⟨A3, c3, A4, c4, rfl, l3, g3, l4, g4⟩ := k27_open hK
  exact ⟨ad, A3, c3, A4, c4, e, hc 0 _ rfl, by rw [← add_field _ _ 1 (by omega)]; exact hc 1 _ rfl, by rw [← add_field _ _ 2 (by omega)]; exact hc 2 _ rfl, by rw [← add_field _ _ 3 (by omega)]; exact hc 3 _ rfl, by rw [← add_field _ _ 4 (by omega)]; exact hc 4 _ rfl, l3, g3, l4, g4⟩
theorem zB {b : Nat} {w W w1 : World} (h : Below b w W) (m : Below b w W → Below b w w1 := by intro h; repeat (first | (with_reducible first | exact h | apply below_alloc | apply pw_below_drewN | apply below_drew1 | refine below_set ?_ (Aside0.out (by assumption))) | exact h)) : Below b w w1 := m h
theorem zK {w W W1 : World} {g : Nat} {row : Option Nat} (h : KeepBut w W g row) (m : KeepBut w W g row → KeepBut w W1 g row := by intro h; repeat (first | (with_reducible first | exact h | apply KeepBut.set_ | apply keep_drewN | apply keep_drew | apply keep_alloc | refine keep_far ?_ (Aside0.out (by assumption)) _) | exact h)) : KeepBut w W1 g row := m h
theorem zE {α : Type} {a b : α} (h : a = b := by first | rfl | (simp; done) | (simp [nil_ne_, nil_eq_]; done) | (simp [*]; done)) : a = b := h
theorem zX {α : Type} {a b : α} (h : a = b := by first | rfl | (simp [errX_none, errX_some] <;> rfl) | (simp [*, errX_none, errX_some] <;> rfl)) : a = b := h
theorem zN {p : Prop} (h : p := by first | exact Kd.R_nil _ _ _ _ _ | exact Kd.N_nil _ _ _ _ _ | exact Kd.V_nil _ _ _ _ _ | exact Kd.Q_nil _ _ _ _ _ | exact Kd.S_nil _ _ _ _ _) : p := h
theorem zD {w w1 : World} (h : Drawn0 w w1 := by repeat (first | exact Drawn0.refl _ | apply Drawn0.step)) : Drawn0 w w1 := h
theorem zH {w W : World} {a : Addr} {v : Value} (hb : Below w.heap.size w W) (h : w.cell? a = some v) : W.cell? a = some v := (hb.cell (World.block_lt_of_cell? w _ h)).trans h
theorem zM {α : Type} {a b : α} (h : a = b := by (try simp only [List.map_toArray, List.map_cons, List.map_nil]); first | done | rfl | (simp only [List.length_drop, List.length_take]; rfl)) : a = b := h
theorem dT {p : Prop} [Decidable p] (h : decide p = true := by first | (with_reducible assumption) | assumption) : p := of_decide_eq_true h
inductive ZMv : World → World → Prop
  | drewN (W : World) (n : Nat) : ZMv W (W.drewN n)
  | drew (W : World) : ZMv W W.drew
  | alloc (W : World) (o : Obj) : ZMv W (W.alloc o)
theorem zb {W W1 : World} {g : Nat} {o : Obj} (h : W.heap[g]? = some o) (m : ZMv W W1 := by with_reducible first | exact ZMv.drewN _ _ | exact ZMv.drew _ | exact ZMv.alloc _ _) : W1.heap[g]? = some o := by
  cases m with
  | drewN _ => exact blk_drewN h _
  | drew => exact blk_drew h
  | alloc _ => exact blk_alloc h _
theorem zR {α : Type} {d : Kd α} {e b : Nat} {ok : Nat → Prop} {w w1 : World} {v : Value} {xs : List α} (h : Kd.R d e w b ok v xs) (m : Below w.heap.size w w1 := by (with_reducible repeat (first | apply below_alloc | apply pw_below_drewN | apply below_drew1)); exact Below.refl _ _) : Kd.R d e w1 b ok v xs := Kd.R_below h m
theorem zV {α : Type} {d : Kd α} {e b : Nat} {ok : Nat → Prop} {w w1 : World} {v : Value} {xs : List α} (h : Kd.V d e w b ok v xs) (m : Below w.heap.size w w1 := by (with_reducible repeat (first | apply below_alloc | apply pw_below_drewN | apply below_drew1)); exact Below.refl _ _) : Kd.V d e w1 b ok v xs := Kd.V_below h m
theorem zc2 {w : World} {g : Nat} {t : TypeId} {a0 a1 : Value} (h : w.heap[g]? = some (.cells #[a0, a1] t (0, 0))) : w.cell? ⟨g, 0, none⟩ = some a0 ∧ w.cell? ⟨g, 1, none⟩ = some a1 ∧ w.frozen? ⟨g, 0, none⟩ = false ∧ w.frozen? ⟨g, 1, none⟩ = false := ⟨(blk_cell h 0).trans rfl, (blk_cell h 1).trans rfl, blk_frozen h 0, blk_frozen h 1⟩
theorem zc3 {w : World} {g : Nat} {t : TypeId} {a0 a1 a2 : Value} (h : w.heap[g]? = some (.cells #[a0, a1, a2] t (0, 0))) : w.cell? ⟨g, 0, none⟩ = some a0 ∧ w.cell? ⟨g, 1, none⟩ = some a1 ∧ w.cell? ⟨g, 2, none⟩ = some a2 ∧ w.frozen? ⟨g, 0, none⟩ = false ∧ w.frozen? ⟨g, 1, none⟩ = false ∧ w.frozen? ⟨g, 2, none⟩ = false := ⟨(blk_cell h 0).trans rfl, (blk_cell h 1).trans rfl, (blk_cell h 2).trans rfl, blk_frozen h 0, blk_frozen h 1, blk_frozen h 2⟩
theorem zc5 {w : World} {g : Nat} {t : TypeId} {a0 a1 a2 a3 a4 : Value} (h : w.heap[g]? = some (.cells #[a0, a1, a2, a3, a4] t (0, 0))) : w.cell? ⟨g, 0, none⟩ = some a0 ∧ w.cell? ⟨g, 1, none⟩ = some a1 ∧ w.cell? ⟨g, 2, none⟩ = some a2 ∧ w.cell? ⟨g, 3, none⟩ = some a3 ∧ w.cell? ⟨g, 4, none⟩ = some a4 ∧ w.frozen? ⟨g, 0, none⟩ = false ∧ w.frozen? ⟨g, 1, none⟩ = false ∧ w.frozen? ⟨g, 2, none⟩ = false ∧ w.frozen? ⟨g, 3, none⟩ = false ∧ w.frozen? ⟨g, 4, none⟩ = false := ⟨(blk_cell h 0).trans rfl, (blk_cell h 1).trans rfl, (blk_cell h 2).trans rfl, (blk_cell h 3).trans rfl, (blk_cell h 4).trans rfl, blk_frozen h 0, blk_frozen h 1, blk_frozen h 2, blk_frozen h 3, blk_frozen h 4⟩
theorem zbb {W W1 W2 : World} {g : Nat} {o : Obj} (h : Aside0 (W.heap[g]? = some o)) (hb : Below W1.heap.size W1 W2) (m : W.heap[g]? = some o → W1.heap[g]? = some o := by intro h; (repeat refine zb ?_); exact h) : Aside0 (W2.heap[g]? = some o) := ⟨blk_below (m h.out) hb⟩
theorem zbx {W W1 : World} {g : Nat} {o : Obj} (h : Aside0 (W.heap[g]? = some o)) (m : W.heap[g]? = some o → W1.heap[g]? = some o := by intro h; (repeat refine zb ?_); exact h) : W1.heap[g]? = some o := m h.out
theorem znl {W W1 : World} {g gb : Nat} {o : Obj} (hg : gb = W1.heap.size) (h : Aside0 (W.heap[g]? = some o)) (m : W.heap[g]? = some o → W1.heap[g]? = some o := by intro h; (repeat refine zb ?_); exact h) : Aside0 (g ≠ gb) := ⟨by rw [hg]; exact Nat.ne_of_lt (blk_lt (m h.out))⟩
theorem zng {W W1 : World} {g gb : Nat} {o : Obj} (hg : gb = W1.heap.size) (h : Aside0 (W.heap[g]? = some o)) (m : W.heap[g]? = some o → W1.heap[g]? = some o := by intro h; (repeat refine zb ?_); exact h) : Aside0 (gb ≠ g) := ⟨by rw [hg]; exact Nat.ne_of_gt (blk_lt (m h.out))⟩
theorem zgw {w W W1 : World} {gb : Nat} (hg : gb = W1.heap.size) (h : Aside0 (Below w.heap.size w W)) (m : Below w.heap.size w W → Below w.heap.size w W1 := by intro h; repeat (first | (with_reducible first | exact h | apply below_alloc | apply pw_below_drewN | apply below_drew1 | refine below_set ?_ (Aside0.out (by assumption))) | exact h)) : Aside0 (w.heap.size ≤ gb) := ⟨by rw [hg]; exact below_size (m h.out)⟩
theorem zbs {w W W1 W2 : World} (h : Aside0 (Below w.heap.size w W)) (hb : Below W1.heap.size W1 W2) (m : Below w.heap.size w W → Below w.heap.size w W1 := by intro h; repeat (first | (with_reducible first | exact h | apply below_alloc | apply pw_below_drewN | apply below_drew1 | refine below_set ?_ (Aside0.out (by assumption))) | exact h)) : Aside0 (Below w.heap.size w W2) := ⟨below_step (m h.out) hb⟩
theorem zve {α : Type} {d : Kd α} {e b gb : Nat} {ok : Nat → Prop} {w w1 w2 : World} {v : Value} {xs : List α} (h : Aside0 (Kd.V d e w b ok v xs)) (hg : gb = w1.heap.size) (hb : Below w1.heap.size w1 w2) (m : Below w.heap.size w w1 := by (with_reducible repeat (first | apply below_alloc | apply pw_below_drewN | apply below_drew1)); exact Below.refl _ _) : Aside0 (Kd.V d e w2 b (fun k => ok k ∧ k ≠ gb) v xs) := ⟨Kd.V_below (Kd.V_elderB (Kd.V_below h.out m) gb (Nat.le_of_eq hg.symm)) hb⟩
theorem zvb {α : Type} {d : Kd α} {e b : Nat} {ok : Nat → Prop} {w w1 w2 : World} {v : Value} {xs : List α} (h : Aside0 (Kd.V d e w b ok v xs)) (hb : Below w1.heap.size w1 w2) (m : Below w.heap.size w w1 := by (with_reducible repeat (first | apply below_alloc | apply pw_below_drewN | apply below_drew1)); exact Below.refl _ _) : Aside0 (Kd.V d e w2 b ok v xs) := ⟨Kd.V_below (Kd.V_below h.out m) hb⟩
theorem zrb {α : Type} {d : Kd α} {e b : Nat} {ok : Nat → Prop} {w w1 w2 : World} {v : Value} {xs : List α} (h : Aside0 (Kd.R d e w b ok v xs)) (hb : Below w1.heap.size w1 w2) (m : Below w.heap.size w w1 := by (with_reducible repeat (first | apply below_alloc | apply pw_below_drewN | apply below_drew1)); exact Below.refl _ _) : Aside0 (Kd.R d e w2 b ok v xs) := ⟨Kd.R_below (Kd.R_below h.out m) hb⟩
theorem zbo {P : Program} {ops : Array Oper} {rest : List Oper} {o : Oper} {a : Act} {Q : Exit → Act → World → Prop} {W : World} {N : Tmp} {cs : Array Value} {t : TypeId} (h : ∀ g, g = W.heap.size → ∀ w1, w1.heap[g]? = some (.cells cs t (0, 0)) → Below W.heap.size W w1 → wpList P ops Q rest (a.put o.dst (.pointer (some ⟨g, 0, none⟩))) w1) (hgd : o.guard = none := by rfl) (hd : o.dst = some N := by rfl) (hr : (execOp a.eval o).run P W = .ok (.value (.pointer (some ⟨W.heap.size, 0, none⟩))) (W.alloc (.cells cs t (0, 0))) := by first | (go_simp; done) | (go_simp; rfl)) : wpList P ops Q (o :: rest) a W := box_event hgd hd hr h
theorem zkc {α : Type} {d : Kd α} {W W1 : World} {A : Option Addr} {n : Nat} {xs : List α} (h : Kd.C d W A n xs) (m : Kd.C d W A n xs → Kd.C d W1 A n xs := by intro h; repeat (first | exact h | (with_reducible refine Kd.C_alloc ?_ _) | (with_reducible refine Kd.C_drewN ?_ _) | (with_reducible refine Kd.C_drew ?_))) : Kd.C d W1 A n xs := m h
theorem zkp {w W W1 : World} {p : Nat → Prop} (h : Aside0 (Kept w W p)) (m : Kept w W p → Kept w W1 p := by intro h; repeat (first | (with_reducible first | exact h | apply Kept.alloc | apply Kept.drewN | apply Kept.drew) | exact h)) : Kept w W1 p := m h.out
theorem zkb {W W1 W2 : World} {g g' : Nat} {row : Option Nat} {o : Obj} (hk : KeepBut W1 W2 g row) (h : Aside0 (W.heap[g']? = some o)) (n : Aside0 (g' ≠ g)) (m : W.heap[g']? = some o → W1.heap[g']? = some o := by intro h; (repeat refine zb ?_); exact h) (hr : some g' ≠ row := by simp) : Aside0 (W2.heap[g']? = some o) := ⟨KeepBut.blk hk (m h.out) n.out hr⟩
theorem zFR {α : Type} {d : Kd α} {e b G : Nat} {ok : Nat → Prop} {W : World} {v a0 a1 a2 a3 a4 : Value} {xs : List α} (h : Kd.R d e W b (fun k => ok k ∧ k ≠ G) v xs) : Kd.R d e (((((W.setCell ⟨G, 0, none⟩ a0).setCell ⟨G, 1, none⟩ a1).setCell ⟨G, 2, none⟩ a2).setCell ⟨G, 3, none⟩ a3).setCell ⟨G, 4, none⟩ a4) b (fun k => ok k ∧ k ≠ G) v xs := Kd.R_far (Kd.R_far (Kd.R_far (Kd.R_far (Kd.R_far h (fun _ hk => hk.2) a0) (fun _ hk => hk.2) a1) (fun _ hk => hk.2) a2) (fun _ hk => hk.2) a3) (fun _ hk => hk.2) a4
theorem zFV {α : Type} {d : Kd α} {e b G : Nat} {ok : Nat → Prop} {W : World} {v a0 a1 a2 a3 a4 : Value} {xs : List α} (h : Kd.V d e W b (fun k => ok k ∧ k ≠ G) v xs) : Kd.V d e (((((W.setCell ⟨G, 0, none⟩ a0).setCell ⟨G, 1, none⟩ a1).setCell ⟨G, 2, none⟩ a2).setCell ⟨G, 3, none⟩ a3).setCell ⟨G, 4, none⟩ a4) b (fun k => ok k ∧ k ≠ G) v xs := Kd.V_far (Kd.V_far (Kd.V_far (Kd.V_far (Kd.V_far h (fun _ hk => hk.2) a0) (fun _ hk => hk.2) a1) (fun _ hk => hk.2) a2) (fun _ hk => hk.2) a3) (fun _ hk => hk.2) a4
theorem zbf {W W1 : World} {g q : Nat} {o : Obj} (h : Aside0 (W.heap[g]? = some o)) (n : Aside0 (g ≠ q)) (m : W.heap[g]? = some o → g ≠ q → W1.heap[g]? = some o := by intro h n; repeat (first | (with_reducible exact h) | refine zb ?_ | refine blk_far ?_ n _)) : W1.heap[g]? = some o := m h.out n.out
theorem zbq {W : World} {G : Nat} {t : TypeId} {b0 b1 b2 b3 b4 a0 a1 a2 a3 a4 : Value} (h : W.heap[G]? = some (.cells #[b0, b1, b2, b3, b4] t (0, 0))) : (((((W.setCell ⟨G, 0, none⟩ a0).setCell ⟨G, 1, none⟩ a1).setCell ⟨G, 2, none⟩ a2).setCell ⟨G, 3, none⟩ a3).setCell ⟨G, 4, none⟩ a4).heap[G]? = some (.cells #[a0, a1, a2, a3, a4] t (0, 0)) := blk_put (blk_put (blk_put (blk_put (blk_put h 0 a0 rfl) 1 a1 rfl) 2 a2 rfl) 3 a3 rfl) 4 a4 rfl
theorem zbp {W W1 : World} {G : Nat} {o o1 : Obj} (h : Aside0 (W.heap[G]? = some o)) (m : W.heap[G]? = some o → W1.heap[G]? = some o1 := by intro h; (repeat refine zb ?_); with_reducible apply zbq; (repeat refine zb ?_); exact h) : W1.heap[G]? = some o1 := m h.out
theorem zA {P : Program} {f : FuncId} {args : Array Value} {w W W1 : World} {v : Value} {J B : World → Prop} {g : Nat} {row : Option Nat} {Q : Ending → World → Prop} (h : Calls P f args W1 fun e w' => e = .returned v ∧ J w' ∧ B w' ∧ KeepBut W1 w' g none) (HK : Aside0 (KeepBut w W g row)) (k : ∀ w', Aside0 (J w') → Aside0 (B w') → Aside0 (KeepBut w w' g row) → Q (.returned v) w') (m : KeepBut w W g row → KeepBut w W1 g row := by intro h; repeat (first | (with_reducible first | exact h | apply KeepBut.set_ | apply keep_drewN | apply keep_drew | apply keep_alloc | refine keep_far ?_ (Aside0.out (by assumption)) _) | exact h)) (hr : none = row ∨ ∃ b, none = some b ∧ w.heap.size ≤ b := by exact .inl rfl) : Calls P f args W1 Q := h.mono (by rintro e w' ⟨rfl, hi, hb, hk⟩; exact k w' ⟨hi⟩ ⟨hb⟩ ⟨KeepBut.trans (m HK.out) hk hr⟩)
theorem zGk {P : Program} {ops : Array Oper} {rest : List Oper} {oi : Oper} {a : Act} {Q : Exit → Act → World → Prop} {f : FuncId} {fn : Func} {os : Array Operand} {ts : Array TypeId} {args : Array Value} {w W W1 : World} {v : Value} {J B : World → Prop} {g : Nat} {row : Option Nat} (N : Option Tmp) (hf : P.funcs[f]? = some fn) (h : Calls P f args W1 fun e w' => e = .returned v ∧ J w' ∧ B w' ∧ KeepBut W1 w' g none) (HK : Aside0 (KeepBut w W g row)) (k : ∀ w', KeepBut W1 w' g none → Aside0 (J w') → Aside0 (B w') → Aside0 (KeepBut w w' g row) → wpList P ops Q rest (a.put N v) w') (hop : oi.op = .call { callee := .value (.func f), args := os, argTypes := ts } := by rfl) (hd : oi.dst = N := by rfl) (hg : oi.guard = none := by rfl) (hname : (fn.name == "runtime.NumGoroutine") = false := by kernel_rfl) (hb : fn.body.isSome = true := by rfl) (hargs : os.map a.eval = args := by (try simp only [List.map_toArray, List.map_cons, List.map_nil]); first | done | rfl | (simp only [List.length_drop, List.length_take]; rfl)) (m : KeepBut w W g row → KeepBut w W1 g row := by intro h; repeat (first | (with_reducible first | exact h | apply KeepBut.set_ | apply keep_drewN | apply keep_drew | apply keep_alloc | refine keep_far ?_ (Aside0.out (by assumption)) _) | exact h)) (hr : none = row ∨ ∃ b, none = some b ∧ w.heap.size ≤ b := by exact .inl rfl) : wpList P ops Q (oi :: rest) a W1 := goesL_ N hd hg hf hname hb args hop hargs (h.mono (by rintro e w' ⟨rfl, hi, hb, hk⟩; exact ⟨v, rfl, k w' hk ⟨hi⟩ ⟨hb⟩ ⟨KeepBut.trans (m HK.out) hk hr⟩⟩))
theorem zG {P : Program} {ops : Array Oper} {rest : List Oper} {oi : Oper} {a : Act} {Q : Exit → Act → World → Prop} {f : FuncId} {fn : Func} {os : Array Operand} {ts : Array TypeId} {args : Array Value} {w W W1 : World} {v : Value} {J B : World → Prop} {g : Nat} {row : Option Nat} (N : Option Tmp) (hf : P.funcs[f]? = some fn) (h : Calls P f args W1 fun e w' => e = .returned v ∧ J w' ∧ B w' ∧ KeepBut W1 w' g none) (HK : Aside0 (KeepBut w W g row)) (k : ∀ w', Aside0 (J w') → Aside0 (B w') → Aside0 (KeepBut w w' g row) → wpList P ops Q rest (a.put N v) w') (hop : oi.op = .call { callee := .value (.func f), args := os, argTypes := ts } := by rfl) (hd : oi.dst = N := by rfl) (hg : oi.guard = none := by rfl) (hname : (fn.name == "runtime.NumGoroutine") = false := by kernel_rfl) (hb : fn.body.isSome = true := by rfl) (hargs : os.map a.eval = args := by (try simp only [List.map_toArray, List.map_cons, List.map_nil]); first | done | rfl | (simp only [List.length_drop, List.length_take]; rfl)) (m : KeepBut w W g row → KeepBut w W1 g row := by intro h; repeat (first | (with_reducible first | exact h | apply KeepBut.set_ | apply keep_drewN | apply keep_drew | apply keep_alloc | refine keep_far ?_ (Aside0.out (by assumption)) _) | exact h)) (hr : none = row ∨ ∃ b, none = some b ∧ w.heap.size ≤ b := by exact .inl rfl) : wpList P ops Q (oi :: rest) a W1 := zGk N hf h HK (fun w' _ => k w') hop hd hg hname hb hargs m hr
end Go.Proofs.YtpdohioobbfncaaGreatDoor.PFnJpWildStop