/- what the Go functions that the law FnJpLength reaches compute, each as a plain function, with the proof that the Go code computes just that; no condition beside those that each theorem states. -/
import Derived.Test.YtmneeighbkcadaaDoorProg
import Derived.Below
import Derived.Deep.Draws
import Derived.Deep.AppendLies
import Derived.Maps.AppendAt
import Derived.OwnWalk
import Derived.Laws.BytesArg
import Derived.Laws.MakeOwn
import Derived.Laws.OwnMore
import Derived.Deep.OwnRows
import Derived.Tactics
import Derived.Lib.ConvBytes
import Derived.Laws.Slices
import Derived.WalkKit
import Derived.KernelRfl
import Derived.RowKit3
import Derived.Deep.LoopGhost
import Derived.Deep.QuietTactic
import Derived.BigQuiet
import Derived.WideLaws
import Derived.Deep.DeepCutAuto
import Derived.Deep.CutBlock
import Derived.Deep.RegionHeld3
import Derived.Laws.Rows
import Derived.Lib.AppendStr
import Derived.ArgAppend
import Derived.Laws.IdiomCopy
import Derived.OrdersHeld
import Derived.Laws.BitsLemmas
import Derived.RowKit
import Derived.Test.YtmneeighbkcadaaDoorWordsFnJpLength
namespace Go.Proofs.YtmneeighbkcadaaDoor.PFnJpLength
open Go.RowKit Go.Proofs.YtmneeighbkcadaaDoorW.PrintWords Go.Proofs.YtmneeighbkcadaaDoorW.PrintLast Go.Proofs.YtmneeighbkcadaaDoorW.PrintMore
set_option linter.unusedVariables false
set_option linter.unusedSimpArgs false
def errX : Option Int → TypeId × Value → Value
  | none, _ => .nilIface
  | some _, ev => .iface ev.1 ev.2
theorem errX_none (ev : TypeId × Value) : errX none ev = .nilIface := rfl
theorem errX_some (c : Int) (ev : TypeId × Value) : errX (some c) ev = .iface ev.1 ev.2 := rfl
theorem nil_ne_ (l : List UInt8) : (l != []) = !l.isEmpty := by cases l <;> rfl
theorem nil_eq_ (l : List UInt8) : (l == []) = l.isEmpty := by cases l <;> rfl
theorem bt_lit (s : ByteArray) (n : Nat) (z : Int) (hz : z.toNat = n) : ∀ h : n < s.size, ((s[n]'h).toNat : Int) = bt s z := by
  subst hz; exact bt_at s z
theorem info5 : (Tryd.prog.info? 5).map (fun i => (i.zero, i.size, i.bytes)) = some (some (.int .u8 0), 1, 1) := by kernel_rfl
theorem info27 : (Tryd.prog.info? 27).map (fun i => (i.zero, i.size, i.bytes)) = some (some (.agg #[(.int .i64 0), (.int .i64 0), (.int .i64 0), (.slice none 0 0), (.slice none 0 0)]), 5, 72) := by kernel_rfl
theorem info43 : (Tryd.prog.info? 43).map (fun i => (i.zero, i.size, i.bytes)) = some (some (.agg #[(.int .i64 0), (.int .i64 0)]), 2, 16) := by kernel_rfl
structure S43 where
  f0 : Int
  f1 : Int
def z43 : S43 := ⟨(0 : Int), (0 : Int)⟩
def k43 : Kd S43 := Kd.iso (Kd.pair (Kd.int .i64) (Kd.int .i64)) (fun x : S43 => (x.f0, x.f1))
theorem k43_open {w : World} {x : S43} {cs : List Value} (h : k43.K w x cs) : cs = [.int .i64 x.f0, .int .i64 x.f1] := by
  obtain ⟨_, _, rfl, rfl, rfl⟩ := h
  exact rfl
theorem k43_mkM (w : World) (base : Nat) (ok : Nat → Prop) (x : S43)  : k43.M w base ok x [.int .i64 x.f0, .int .i64 x.f1] := ⟨[.int .i64 x.f0], [.int .i64 x.f1], rfl, rfl, rfl⟩
def rd_T43 (xs : List S43) (i : Int) : S43 := xs.getD i.toNat z43
theorem at_T43 {w : World} {A : Option Addr} {n : Nat} {xs : List S43} (h : Kd.C k43 w A n xs) (i : Int) (h0 : 0 ≤ i) (h1 : i < n) : ∃ ad , A = some ad ∧ w.cell? (ad.add (i.toNat * 2)) = some (.int .i64 (rd_T43 xs i).f0) ∧ w.cell? ⟨(ad.add (i.toNat * 2)).block, (ad.add (i.toNat * 2)).off + 1, none⟩ = some (.int .i64 (rd_T43 xs i).f1) := by
  obtain ⟨ad, c, e, _, hK, hc0⟩ := Kd.C_get h z43 i h0 h1
  have hc : ∀ j u, c[j]? = some u → w.cell? (ad.add (i.toNat * 2 + j)) = some u := hc0
  obtain rfl := k43_open hK
  exact ⟨ad, e, hc 0 _ rfl, by rw [← add_field _ _ 1 (by omega)]; exact hc 1 _ rfl⟩
structure S27 where
  f0 : Int
  f1 : Int
  f2 : Int
  f3 : (List S43)
  f4 : (List S27)
def z27 : S27 := ⟨(0 : Int), (0 : Int), (0 : Int), ([] : List S43), ([] : List S27)⟩
def F27 (d : Kd S27) : Kd S27 := Kd.iso (Kd.pair (Kd.int .i64) (Kd.pair (Kd.int .i64) (Kd.pair (Kd.int .i64) (Kd.pair (Kd.slice 43 k43) (Kd.slice 27 d))))) (fun x : S27 => (x.f0, x.f1, x.f2, x.f3, x.f4))
theorem mono27 : Kd.Mono F27 := Kd.mono_iso _ (Kd.mono_pair (Kd.mono_const _) (Kd.mono_pair (Kd.mono_const _) (Kd.mono_pair (Kd.mono_const _) (Kd.mono_pair (Kd.mono_const _) (Kd.mono_slice 27 Kd.mono_id)))))
theorem sub27 : Kd.Sub F27 [27, 43] := Kd.sub_iso _ (Kd.sub_pair (Kd.sub_const _ (by decide)) (Kd.sub_pair (Kd.sub_const _ (by decide)) (Kd.sub_pair (Kd.sub_const _ (by decide)) (Kd.sub_pair (Kd.sub_const _ (by decide)) (Kd.sub_slice 27 (by decide) Kd.sub_id)))))
theorem sz27 : ∀ n, (Kd.upto F27 5 [27, 43] n).sz = 5 := Kd.upto_sz (fun _ => rfl)
def k27 : Kd S27 := Kd.fix F27 5 [27, 43] sz27 (Kd.upto_E sub27)
theorem k27_open {w : World} {x : S27} {cs : List Value} (h : k27.K w x cs) : ∃ A3 c3 A4 c4, cs = [.int .i64 x.f0, .int .i64 x.f1, .int .i64 x.f2, .slice A3 x.f3.length c3, .slice A4 x.f4.length c4] ∧ x.f3.length ≤ c3 ∧ k43.C w A3 x.f3.length x.f3 ∧ x.f4.length ≤ c4 ∧ k27.C w A4 x.f4.length x.f4 := by
  obtain ⟨n, h⟩ := h
  rcases n with _ | n
  · exact h.elim
  obtain ⟨_, _, rfl, rfl, ⟨_, _, rfl, rfl, ⟨_, _, rfl, rfl, ⟨_, _, rfl, ⟨A3, c3, rfl, l3, g3⟩, ⟨A4, c4, rfl, l4, g4⟩⟩⟩⟩⟩ := h
  exact ⟨A3, c3, A4, c4, rfl, l3, g3, l4, Kd.fix_C g4⟩
theorem k27_mkM (w : World) (base : Nat) (ok : Nat → Prop) (x : S27) {v3 : Value} (g3 : k43.R 43 w base ok v3 x.f3) {v4 : Value} (g4 : k27.R 27 w base ok v4 x.f4) : k27.M w base ok x [.int .i64 x.f0, .int .i64 x.f1, .int .i64 x.f2, v3, v4] := by
  obtain ⟨n4, q4⟩ := Kd.fix_R_back mono27 g4
  have r4 := Kd.upto_R_le mono27 sz27 (show n4 ≤ n4 by omega) q4
  exact ⟨n4 + 1, ⟨[.int .i64 x.f0], [.int .i64 x.f1, .int .i64 x.f2, v3, v4], rfl, rfl, ⟨[.int .i64 x.f1], [.int .i64 x.f2, v3, v4], rfl, rfl, ⟨[.int .i64 x.f2], [v3, v4], rfl, rfl, ⟨[v3], [v4], rfl, ⟨v3, rfl, g3⟩, ⟨v4, rfl, r4⟩⟩⟩⟩⟩⟩
theorem k27_openF {W : World} {ok : Nat → Prop} {x : S27} {cs : List Value} (h : Kd.FK k27 W ok x cs) : ∃ A3 c3 A4 c4, cs = [.int .i64 x.f0, .int .i64 x.f1, .int .i64 x.f2, .slice A3 x.f3.length c3, .slice A4 x.f4.length c4] ∧ x.f3.length ≤ c3 ∧ Kd.F k43 W ok A3 x.f3.length x.f3 ∧ x.f4.length ≤ c4 ∧ Kd.F k27 W ok A4 x.f4.length x.f4 := by
  obtain ⟨A3, c3, A4, c4, rfl, l3, _, l4, _⟩ := k27_open (Kd.FK_now h)
  exact ⟨A3, c3, A4, c4, rfl, l3, (fun W' hW => by obtain ⟨A3_, c3_, A4_, c4_, he, l3_, g3_, l4_, g4_⟩ := k27_open (h W' hW); injection (Option.some.inj (show some (Value.slice A3 x.f3.length c3) = some (Value.slice A3_ x.f3.length c3_) from congrArg (fun l => l[3]?) he)) with ha_ _ _; rw [ha_]; exact g3_), l4, (fun W' hW => by obtain ⟨A3_, c3_, A4_, c4_, he, l3_, g3_, l4_, g4_⟩ := k27_open (h W' hW); injection (Option.some.inj (show some (Value.slice A4 x.f4.length c4) = some (Value.slice A4_ x.f4.length c4_) from congrArg (fun l => l[4]?) he)) with ha_ _ _; rw [ha_]; exact g4_)⟩
def rd_T27 (xs : List S27) (i : Int) : S27 := xs.getD i.toNat z27
theorem at_T27 {w : World} {A : Option Addr} {n : Nat} {xs : List S27} (h : Kd.C k27 w A n xs) (i : Int) (h0 : 0 ≤ i) (h1 : i < n) : ∃ ad A3 c3 A4 c4, A = some ad ∧ w.cell? (ad.add (i.toNat * 5)) = some (.int .i64 (rd_T27 xs i).f0) ∧ w.cell? ⟨(ad.add (i.toNat * 5)).block, (ad.add (i.toNat * 5)).off + 1, none⟩ = some (.int .i64 (rd_T27 xs i).f1) ∧ w.cell? ⟨(ad.add (i.toNat * 5)).block, (ad.add (i.toNat * 5)).off + 2, none⟩ = some (.int .i64 (rd_T27 xs i).f2) ∧ w.cell? ⟨(ad.add (i.toNat * 5)).block, (ad.add (i.toNat * 5)).off + 3, none⟩ = some (.slice A3 (rd_T27 xs i).f3.length c3) ∧ w.cell? ⟨(ad.add (i.toNat * 5)).block, (ad.add (i.toNat * 5)).off + 4, none⟩ = some (.slice A4 (rd_T27 xs i).f4.length c4) ∧ (rd_T27 xs i).f3.length ≤ c3 ∧ k43.C w A3 (rd_T27 xs i).f3.length (rd_T27 xs i).f3 ∧ (rd_T27 xs i).f4.length ≤ c4 ∧ k27.C w A4 (rd_T27 xs i).f4.length (rd_T27 xs i).f4 := by
  obtain ⟨ad, c, e, _, hK, hc0⟩ := Kd.C_get h z27 i h0 h1
  have hc : ∀ j u, c[j]? = some u → w.cell? (ad.add (i.toNat * 5 + j)) = some u := hc0
  obtain ⟨A3, c3, A4, c4, rfl, l3, g3, l4, g4⟩ := k27_open hK
  exact ⟨ad, A3, c3, A4, c4, e, hc 0 _ rfl, by rw [← add_field _ _ 1 (by omega)]; exact hc 1 _ rfl, by rw [← add_field _ _ 2 (by omega)]; exact hc 2 _ rfl, by rw [← add_field _ _ 3 (by omega)]; exact hc 3 _ rfl, by rw [← add_field _ _ 4 (by omega)]; exact hc 4 _ rfl, l3, g3, l4, g4⟩
theorem zB {b : Nat} {w W w1 : World} (h : Below b w W) (m : Below b w W → Below b w w1 := by intro h; repeat (first | (with_reducible first | exact h | apply below_alloc | apply pw_below_drewN | apply below_drew1 | refine below_set ?_ (Aside0.out (by assumption))) | exact h)) : Below b w w1 := m h
theorem zK {w W W1 : World} {g : Nat} {row : Option Nat} (h : KeepBut w W g row) (m : KeepBut w W g row → KeepBut w W1 g row := by intro h; repeat (first | (with_reducible first | exact h | apply KeepBut.set_ | apply keep_drewN | apply keep_drew | apply keep_alloc | refine keep_far ?_ (Aside0.out (by assumption)) _) | exact h)) : KeepBut w W1 g row := m h
theorem zE {α : Type} {a b : α} (h : a = b := by first | rfl | (simp; done) | (simp [nil_ne_, nil_eq_]; done) | (simp [*]; done)) : a = b := h
theorem zX {α : Type} {a b : α} (h : a = b := by first | rfl | (simp [errX_none, errX_some] <;> rfl) | (simp [*, errX_none, errX_some] <;> rfl)) : a = b := h
theorem zN {p : Prop} (h : p := by first | exact Kd.R_nil _ _ _ _ _ | exact Kd.N_nil _ _ _ _ _ | exact Kd.V_nil _ _ _ _ _ | exact Kd.Q_nil _ _ _ _ _ | exact Kd.S_nil _ _ _ _ _) : p := h
theorem zD {w w1 : World} (h : Drawn0 w w1 := by repeat (first | exact Drawn0.refl _ | apply Drawn0.step)) : Drawn0 w w1 := h
theorem zH {w W : World} {a : Addr} {v : Value} (hb : Below w.heap.size w W) (h : w.cell? a = some v) : W.cell? a = some v := (hb.cell (World.block_lt_of_cell? w _ h)).trans h
theorem zM {α : Type} {a b : α} (h : a = b := by (try simp only [List.map_toArray, List.map_cons, List.map_nil]); first | done | rfl | (simp only [List.length_drop, List.length_take]; rfl)) : a = b := h
theorem dT {p : Prop} [Decidable p] (h : decide p = true := by first | (with_reducible assumption) | assumption) : p := of_decide_eq_true h
inductive ZMv : World → World → Prop
  | drewN (W : World) (n : Nat) : ZMv W (W.drewN n)
  | drew (W : World) : ZMv W W.drew
  | alloc (W : World) (o : Obj) : ZMv W (W.alloc o)
theorem zb {W W1 : World} {g : Nat} {o : Obj} (h : W.heap[g]? = some o) (m : ZMv W W1 := by with_reducible first | exact ZMv.drewN _ _ | exact ZMv.drew _ | exact ZMv.alloc _ _) : W1.heap[g]? = some o := by
  cases m with
  | drewN _ => exact blk_drewN h _
  | drew => exact blk_drew h
  | alloc _ => exact blk_alloc h _
theorem zR {α : Type} {d : Kd α} {e b : Nat} {ok : Nat → Prop} {w w1 : World} {v : Value} {xs : List α} (h : Kd.R d e w b ok v xs) (m : Below w.heap.size w w1 := by (with_reducible repeat (first | apply below_alloc | apply pw_below_drewN | apply below_drew1)); exact Below.refl _ _) : Kd.R d e w1 b ok v xs := Kd.R_below h m
theorem zV {α : Type} {d : Kd α} {e b : Nat} {ok : Nat → Prop} {w w1 : World} {v : Value} {xs : List α} (h : Kd.V d e w b ok v xs) (m : Below w.heap.size w w1 := by (with_reducible repeat (first | apply below_alloc | apply pw_below_drewN | apply below_drew1)); exact Below.refl _ _) : Kd.V d e w1 b ok v xs := Kd.V_below h m
end Go.Proofs.YtmneeighbkcadaaDoor.PFnJpLength