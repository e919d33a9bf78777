/- Words that the kit's print lays for a claim, cut down by a program of this session (wip/prx/trim.py) to those that this claim leans on; no condition beside those that each theorem states. -/
import Derived.Below
import Derived.Deep.Draws
import Derived.Deep.AppendLies
import Derived.Maps.AppendAt
import Derived.OwnWalk
import Derived.Laws.BytesArg
import Derived.Laws.MakeOwn
import Derived.Laws.OwnMore
import Derived.Deep.OwnRows
import Derived.Tactics
import Derived.Lib.ConvBytes
import Derived.Laws.Slices
import Derived.WalkKit
import Derived.KernelRfl
import Derived.RowKit3
import Derived.Deep.LoopGhost
import Derived.Deep.QuietTactic
import Derived.BigQuiet
import Derived.WideLaws
import Derived.Deep.DeepCutAuto
import Derived.Deep.CutBlock
import Derived.Deep.RegionHeld3
import Derived.Laws.Rows
import Derived.Lib.AppendStr
import Derived.ArgAppend
import Derived.Laws.IdiomCopy
import Derived.RowKit
import Derived.OrdersHeld
import Derived.Laws.BitsLemmas
import Derived.Laws.StructEq
set_option linter.unusedVariables false
set_option linter.unusedSimpArgs false
namespace Go.Proofs.YtnmbpleneddkhaaW.PrintWords
open Go.RowKit
/-- A fact that the walk's simp doesn't look into. -/
structure Aside0 (p : Prop) : Prop where mk :: (out : p)
/-- The world is the old one, some orders having been drawn. -/
structure Drawn0 (w w' : World) : Prop where mk :: (out : ∃ n, w' = w.drewN n)
theorem Drawn0.refl (w : World) : Drawn0 w w := ⟨⟨0, rfl⟩⟩
theorem Drawn0.step {w w' : World} (h : Drawn0 w w') (n : Nat) : Drawn0 w (w'.drewN n) := by
  obtain ⟨m, rfl⟩ := h
  exact ⟨⟨m + n, World.drewN_drewN ..⟩⟩
theorem Drawn0.below {w w' : World} (h : Drawn0 w w') : Below w.heap.size w w' := by
  obtain ⟨n, rfl⟩ := h
  induction n with
  | zero => exact Below.refl _ _
  | succ n ih => rw [← World.drew_drewN]; exact ih.drew
def bt (s : ByteArray) (i : Int) : Int := if h : i.toNat < s.size then ((s[i.toNat]'h).toNat : Int) else 0
theorem bt_at (s : ByteArray) (i : Int) : ∀ h : i.toNat < s.size, ((s[i.toNat]'h).toNat : Int) = bt s i := fun h => by simp [bt, h]
/-- Where the first answers, the second answers the same. -/
def LeO {α : Type} (a b : Option α) : Prop := ∀ r, a = some r → b = some r
theorem LeO.refl {α : Type} (a : Option α) : LeO a a := fun _ h => h
theorem LeO.trans {α : Type} {a b c : Option α} (h : LeO a b) (k : LeO b c) : LeO a c := fun r hr => k r (h r hr)
theorem LeO.ite {α : Type} {c : Prop} [Decidable c] {a a' b b' : Option α} (h : LeO a a') (k : LeO b b') : LeO (if c then a else b) (if c then a' else b') := by
  split
  · exact h
  · exact k
theorem LeO.bind {α β : Type} {a a' : Option α} {f f' : α → Option β} (h : LeO a a') (k : ∀ x, LeO (f x) (f' x)) : LeO (a.bind f) (a'.bind f') := by
  intro r hr
  obtain ⟨x, hx, hf⟩ := Option.bind_eq_some_iff.1 hr
  exact Option.bind_eq_some_iff.2 ⟨x, h x hx, k x r hf⟩
theorem more_rounds {α : Type} {g : Nat → Option α} (h : ∀ k, LeO (g k) (g (k + 1))) (k : Nat) : ∀ j, LeO (g k) (g (k + j))
  | 0 => LeO.refl _
  | j + 1 => (more_rounds h k j).trans (h (k + j))
theorem at_rounds {α : Type} {g : Nat → Option α} (h : ∀ k, LeO (g k) (g (k + 1))) {k k' : Nat} (hk : k ≤ k') {r : α} (hr : g k = some r) : g k' = some r := by
  have := more_rounds h k (k' - k) r hr
  rwa [Nat.add_sub_cancel' hk] at this
def Ev {α : Type} (g : Nat → Option α) (r : α) : Prop := ∃ K, ∀ k, K ≤ k → g k = some r
theorem Ev.of {α : Type} {g : Nat → Option α} {r : α} (hg : ∀ k, LeO (g k) (g (k + 1))) {k : Nat} (h : g k = some r) : Ev g r := ⟨k, fun _ hk => at_rounds hg hk h⟩
theorem Ev.now {α : Type} (r : α) : Ev (fun _ => some r) r := ⟨0, fun _ _ => rfl⟩
theorem Ev.rounds {α : Type} {g : Nat → Option α} {r : α} (h : Ev g r) : ∃ k, g k = some r := by
  obtain ⟨K, h⟩ := h
  exact ⟨K, h K (Nat.le_refl _)⟩
theorem Ev.bind {α β : Type} {g : Nat → Option α} {f : Nat → α → Option β} {a : α} {r : β} (h : Ev g a) (k : Ev (fun n => f n a) r) : Ev (fun n => (g n).bind (f n)) r := by
  obtain ⟨K, h⟩ := h
  obtain ⟨K', k⟩ := k
  refine ⟨max K K', fun n hn => ?_⟩
  have h1 := h n (by omega)
  have h2 := k n (by omega)
  simp only [h1, Option.bind_some]
  exact h2
/-- One round of a loop. -/
theorem Ev.step {α : Type} {g f : Nat → Option α} {r : α} (h : ∀ k, g (k + 1) = f k) (k : Ev f r) : Ev g r := by
  obtain ⟨K, k⟩ := k
  refine ⟨K + 1, fun n hn => ?_⟩
  obtain ⟨m, rfl⟩ : ∃ m, n = m + 1 := ⟨n - 1, by omega⟩
  rw [h]
  exact k m (by omega)
theorem Ev.congr {α : Type} {g f : Nat → Option α} {r : α} (h : ∀ k, g k = f k) (k : Ev f r) : Ev g r := by
  obtain ⟨K, k⟩ := k
  exact ⟨K, fun n hn => (h n).trans (k n hn)⟩
end Go.Proofs.YtnmbpleneddkhaaW.PrintWords
/-
  PRINTED WORDS, second file: A REGION THAT DRAWS ITS ORDER, WALKED BY HAND, where its last store writes what its own loads read ('x.f = append(x.f, f(i))'). Plain theorems; no macro, no elab. A claim may hold it (turn the namespace's name).
  A load may be taken first in every world that meets S; behind the operations of ds nothing is shown; sound because each of ds waits for what is taken (Region.lastB). The kernel checks it.
  By an AI agent of Go's test side, Mon Nov 16 2026. No person has read it.
-/
namespace Go.Proofs.YtnmbpleneddkhaaW.PrintLast
section
variable {P : Program} {ops : Array Oper} {Q : Exit → Act → World → Prop} {md : Region.Mode} {S : World → Prop} {ds : List Nat}
theorem enters_ {f : FuncId} {fn : Func} (hf : P.funcs[f]? = some fn) (hname : (fn.name == "runtime.NumGoroutine") = false) (hb : fn.body.isSome = true) (args : Array Value) (w : World) : (callFunc f args).run P w = .ok (.enter f args) w := by
  have h1 : fn.name ≠ "runtime.NumGoroutine" := by simpa using hname
  obtain ⟨c, hc⟩ := Option.isSome_iff_exists.1 hb
  simp [callFunc, hf, h1, hc]
/-- A call in a plain region, as an arm of go_wp2_with ('hd' first: it fails at once at another operation). -/
theorem goesL_ {rest : List Oper} {oi : Oper} {a : Act} {w : World} (N : Option Tmp) (hd : oi.dst = N) (hg : oi.guard = none) {f : FuncId} {fn : Func} {as : Array Operand} {ts : Array TypeId} (hf : P.funcs[f]? = some fn) (hname : (fn.name == "runtime.NumGoroutine") = false) (hb : fn.body.isSome = true) (args : Array Value)
    (hop : oi.op = .call { callee := .value (.func f), args := as, argTypes := ts }) (hargs : as.map a.eval = args)
    (h : Calls P f args w fun e w' => ∃ v, e = .returned v ∧ wpList P ops Q rest (a.put N v) w') : wpList P ops Q (oi :: rest) a w := by
  refine wpList_plain hg fun K hK => ?_
  have he := enters_ hf hname hb args w
  have hrun : (execOp a.eval oi).run P w = .ok (.enter f args) w := by
    unfold execOp
    simp [hop, resolve, Deferred.ofValue, invoke, Act.eval, hargs, he]
  unfold Oper.wp
  rw [hrun, Oper.upon_enter]
  refine h.mono fun e w'' hh => ?_
  obtain ⟨v, rfl, hk⟩ := hh
  subst hd
  exact hK _ _ hk
theorem i64_w (n : Int) : IntKind.i64.wrap n = Go.RowKit.wrap64 n := by unfold Go.RowKit.wrap64; exact IntKind.wrap_i64 n
end
end Go.Proofs.YtnmbpleneddkhaaW.PrintLast
namespace Go.Proofs.YtnmbpleneddkhaaW.PrintWords
open Go.RowKit
end Go.Proofs.YtnmbpleneddkhaaW.PrintWords
namespace Go.Proofs.YtnmbpleneddkhaaW.PrintWords
open Go.RowKit
end Go.Proofs.YtnmbpleneddkhaaW.PrintWords
namespace Go.Proofs.YtnmbpleneddkhaaW.PrintWords
open Go.RowKit
end Go.Proofs.YtnmbpleneddkhaaW.PrintWords
namespace Go.Proofs.YtnmbpleneddkhaaW.PrintWords
open Go.RowKit
end Go.Proofs.YtnmbpleneddkhaaW.PrintWords
namespace Go.Proofs.YtnmbpleneddkhaaW.PrintWords
open Go.RowKit
end Go.Proofs.YtnmbpleneddkhaaW.PrintWords
namespace Go.Proofs.YtnmbpleneddkhaaW.PrintWords
open Go.RowKit
end Go.Proofs.YtnmbpleneddkhaaW.PrintWords
namespace Go.Proofs.YtnmbpleneddkhaaW.PrintWords
open Go.RowKit
end Go.Proofs.YtnmbpleneddkhaaW.PrintWords
namespace Go.Proofs.YtnmbpleneddkhaaW.PrintWords
open Go.RowKit
end Go.Proofs.YtnmbpleneddkhaaW.PrintWords
namespace Go.Proofs.YtnmbpleneddkhaaW.PrintWords
open Go.RowKit
end Go.Proofs.YtnmbpleneddkhaaW.PrintWords
namespace Go.Proofs.YtnmbpleneddkhaaW.PrintWords
open Go.RowKit
end Go.Proofs.YtnmbpleneddkhaaW.PrintWords
namespace Go.Proofs.YtnmbpleneddkhaaW.PrintLast
open Go.Proofs.YtnmbpleneddkhaaW.PrintWords (Aside0)
end Go.Proofs.YtnmbpleneddkhaaW.PrintLast
namespace Go.Proofs.YtnmbpleneddkhaaW.PrintLast
end Go.Proofs.YtnmbpleneddkhaaW.PrintLast
namespace Go.Proofs.YtnmbpleneddkhaaW.PrintWords
open Go.RowKit
end Go.Proofs.YtnmbpleneddkhaaW.PrintWords
namespace Go.Proofs.YtnmbpleneddkhaaW.PrintLast
end Go.Proofs.YtnmbpleneddkhaaW.PrintLast
namespace Go.Proofs.YtnmbpleneddkhaaW.PrintWords
open Go.RowKit
end Go.Proofs.YtnmbpleneddkhaaW.PrintWords
namespace Go.Proofs.YtnmbpleneddkhaaW.PrintLast
end Go.Proofs.YtnmbpleneddkhaaW.PrintLast
namespace Go.Proofs.YtnmbpleneddkhaaW.PrintWords
open Go.RowKit
end Go.Proofs.YtnmbpleneddkhaaW.PrintWords
namespace Go.Proofs.YtnmbpleneddkhaaW.PrintWords
open Go.RowKit
end Go.Proofs.YtnmbpleneddkhaaW.PrintWords
namespace Go.Proofs.YtnmbpleneddkhaaW.PrintMore
open Go.RowKit Go.Proofs.YtnmbpleneddkhaaW.PrintWords
end Go.Proofs.YtnmbpleneddkhaaW.PrintMore
namespace Go.Proofs.YtnmbpleneddkhaaW.PrintWords
open Go.RowKit
section
variable {P : Program} {ops : Array Oper} {rest : List Oper} {o : Oper} {a : Act} {Q : Exit → Act → World → Prop} {W : World}
/-- The operation is a call of this function (a cheap look ahead of a dear step). -/
theorem gate_callee {f : FuncId} {as : Array Operand} {ts : Array TypeId} (_ho : o.op = .call { callee := .value (.func f), args := as, argTypes := ts }) (h : wpList P ops Q (o :: rest) a W) : wpList P ops Q (o :: rest) a W := h
end
end Go.Proofs.YtnmbpleneddkhaaW.PrintWords
namespace Go.Proofs.YtnmbpleneddkhaaW.PrintWords
open Go.RowKit
end Go.Proofs.YtnmbpleneddkhaaW.PrintWords
namespace Go.Proofs.YtnmbpleneddkhaaW.PrintWords
end Go.Proofs.YtnmbpleneddkhaaW.PrintWords
