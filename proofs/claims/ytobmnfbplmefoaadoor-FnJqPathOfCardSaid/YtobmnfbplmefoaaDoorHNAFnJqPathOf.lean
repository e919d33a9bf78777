/- A character's bytes, written into a row at a place (unicode/utf8.EncodeRune); no condition beside those that each theorem states. -/
import Derived.Test.YtobmnfbplmefoaaDoorGXFnJqPathOf
import Derived.Test.YtobmnfbplmefoaaDoorSHFnJqPathOf
import Derived.Test.YtobmnfbplmefoaaDoorPFnJqPathOfx0
import Derived.Lib.ConvBytes
import Derived.Laws.BytesArg
import Derived.Laws.CopyOwn
namespace Go.Proofs.YtobmnfbplmefoaaDoor.PFnJqPathOf
open Go.RowKit Go.Proofs.YtobmnfbplmefoaaDoorW.PrintWords Go.Proofs.YtobmnfbplmefoaaDoorW.PrintLast Go.Proofs.YtobmnfbplmefoaaDoorW.PrintMore
set_option linter.unusedVariables false
set_option linter.unusedSimpArgs false
/-! ### a character's bytes -/
def encN (r : Int) : List Int := if r ≤ 127 then [r] else if r ≤ 2047 then [192 + r / 64, 128 + r % 64] else if r ≤ 65535 then [224 + r / 4096, 128 + r / 64 % 64, 128 + r % 64] else [240 + r / 262144, 128 + r / 4096 % 64, 128 + r / 64 % 64, 128 + r % 64]
theorem encN_len (r : Int) : 0 < (encN r).length ∧ (encN r).length ≤ 4 := by unfold encN; split <;> (try split) <;> (try split) <;> simp
/-- A block that is a row of bytes. -/
structure Ob (g : Nat) (t : TypeId) (o : List Int) (W : World) : Prop where
  row : W.heap[g]? = some (.cells (nums .u8 o).toArray t (0, 0))
theorem Ob.cell {g : Nat} {t : TypeId} {o : List Int} {W : World} (h : Ob g t o W) (k : Nat) (hk : k < o.length) : W.cell? ⟨g, k, none⟩ = some (.int .u8 (o.getD k 0)) := by
  rw [blk_cell h.row]
  simp [nums, List.getD_eq_getElem?_getD, hk]
theorem Ob.free {g : Nat} {t : TypeId} {o : List Int} {W : World} (h : Ob g t o W) (k : Nat) : W.frozen? ⟨g, k, none⟩ = false := blk_frozen h.row k
theorem Ob.put {g : Nat} {t : TypeId} {o : List Int} {W : World} (h : Ob g t o W) (k : Nat) (x : Int) : Ob g t (o.set k x) (W.setCell ⟨g, k, none⟩ (.int .u8 x)) := by
  refine ⟨?_⟩
  rw [heap_setCell_same W g k _ t _ h.row]
  congr 2
  apply Array.ext'
  simp [nums, List.map_set]
theorem Ob.more {g : Nat} {t : TypeId} {o : List Int} {W W' : World} (h : Ob g t o W) (hb : Below W.heap.size W W') : Ob g t o W' := ⟨(hb.block g (blk_lt h.row)).trans h.row⟩
theorem Ob.lt {g : Nat} {t : TypeId} {o : List Int} {W : World} (h : Ob g t o W) : g < W.heap.size := blk_lt h.row
/-- Bytes written one behind the other. -/
def wrt : List Int → Nat → List Int → List Int
  | o, _, [] => o
  | o, j, x :: xs => wrt (o.set j x) (j + 1) xs
theorem wr_len (xs : List Int) : ∀ (o : List Int) (j : Nat), (wrt o j xs).length = o.length := by
  induction xs with
  | nil => intro o j; rfl
  | cons x xs ih => intro o j; rw [wrt, ih, List.length_set]
theorem wr_take (xs : List Int) : ∀ (o : List Int) (j : Nat), j + xs.length ≤ o.length → (wrt o j xs).take (j + xs.length) = o.take j ++ xs := by
  induction xs with
  | nil => intro o j _; simp [wrt]
  | cons x xs ih =>
    intro o j h
    simp only [List.length_cons] at h
    rw [wrt, List.length_cons, show j + (xs.length + 1) = j + 1 + xs.length by omega, ih _ _ (by rw [List.length_set]; omega)]
    rw [List.take_add_one, List.take_set_of_le (Nat.le_refl _), List.getElem?_set_self (by omega)]
    simp
theorem splice_len (o xs : List Int) (j : Nat) (h : j + xs.length ≤ o.length) : (splice o j xs).length = o.length := length_splice o j xs h
theorem splice_take (o xs : List Int) (j : Nat) (h : j + xs.length ≤ o.length) : (splice o j xs).take (j + xs.length) = o.take j ++ xs := by
  have hj : (o.take j).length = j := by rw [List.length_take]; omega
  unfold splice
  rw [← List.append_assoc, show j + xs.length = (o.take j ++ xs).length by rw [List.length_append, hj]]
  exact List.take_left
set_option maxHeartbeats 4000000 in
set_option maxRecDepth 100000 in
theorem enc_non (r : Int) (h0 : 127 < r) (h1 : r ≤ 1114111) (h2 : r < 55296 ∨ 57343 < r) (g j n cap : Nat) (t : TypeId) (o : List Int) (hn : 4 ≤ n) (ho : j + 4 ≤ o.length) (B : Nat) (w0 w : World) (hb : Below B w0 w) (hg : B ≤ g) (hO : Ob g t o w) :
    Calls Tryd.prog 45 #[.slice (some ⟨g, j, none⟩) n cap, .int .i32 r] w fun e w' => e = .returned (.int .i64 ((encN r).length : Int)) ∧ Ob g t (wrt o j (encN r)) w' ∧ Below B w0 w' := by
  have c0 : w.cell? ⟨g, j, none⟩ = some (.int .u8 (o.getD j 0)) := hO.cell j (by omega)
  have c1 : w.cell? ⟨g, j + 1, none⟩ = some (.int .u8 (o.getD (j + 1) 0)) := hO.cell (j + 1) (by omega)
  have c2 : w.cell? ⟨g, j + 2, none⟩ = some (.int .u8 (o.getD (j + 2) 0)) := hO.cell (j + 2) (by omega)
  have c3 : w.cell? ⟨g, j + 3, none⟩ = some (.int .u8 (o.getD (j + 3) 0)) := hO.cell (j + 3) (by omega)
  have f0 : w.frozen? ⟨g, j, none⟩ = false := hO.free j
  have f1 : w.frozen? ⟨g, j + 1, none⟩ = false := hO.free (j + 1)
  have f2 : w.frozen? ⟨g, j + 2, none⟩ = false := hO.free (j + 2)
  have f3 : w.frozen? ⟨g, j + 3, none⟩ = false := hO.free (j + 3)
  obtain ⟨z0, hz0⟩ : ∃ z, o.getD j 0 = z := ⟨_, rfl⟩
  obtain ⟨z1, hz1⟩ : ∃ z, o.getD (j + 1) 0 = z := ⟨_, rfl⟩
  obtain ⟨z2, hz2⟩ : ∃ z, o.getD (j + 2) 0 = z := ⟨_, rfl⟩
  obtain ⟨z3, hz3⟩ : ∃ z, o.getD (j + 3) 0 = z := ⟨_, rfl⟩
  rw [hz0] at c0
  rw [hz1] at c1
  rw [hz2] at c2
  rw [hz3] at c3
  have e32 : IntKind.u32.wrap r = r := by rw [IntKind.wrap_u32]; omega
  have n0 : 0 < n := by omega
  have n1 : 1 < n := by omega
  have n2 : 2 < n := by omega
  have n3 : 3 < n := by omega
  have HB2 := Aside0.mk (fun a b : Int => (hO.put j a).put (j + 1) b)
  have HB3 := Aside0.mk (fun a b c : Int => ((hO.put j a).put (j + 1) b).put (j + 2) c)
  have HB4 := Aside0.mk (fun a b c d : Int => (((hO.put j a).put (j + 1) b).put (j + 2) c).put (j + 3) d)
  have HB := Aside0.mk hb
  have HG := Aside0.mk hg
  clear hO hb hg ho hz0 hz1 hz2 hz3
  by_cases a1 : r ≤ 2047
  · have d1 : decide (r ≤ 2047) = true := decide_eq_true a1
    have HE := Aside0.mk (show encN r = [192 + r / 64, 128 + r % 64] by unfold encN; rw [if_neg (by omega), if_pos a1])
    go_enter Tryd.func45, Tryd.ntmps45
    go_wp2
    go_ret
    rw [HE.out]
    exact ⟨rfl, HB2.out _ _, (HB.out.setCell HG.out _).setCell HG.out _⟩
  · have d1 : decide (r ≤ 2047) = false := decide_eq_false a1
    by_cases a2 : r ≤ 65535
    · have HE := Aside0.mk (show encN r = [224 + r / 4096, 128 + r / 64 % 64, 128 + r % 64] by unfold encN; rw [if_neg (by omega), if_neg a1, if_pos a2])
      have d2 : decide (r ≤ 65535) = true := decide_eq_true a2
      rcases h2 with h2 | h2
      · have d3 : decide (r < 55296) = true := decide_eq_true h2
        go_enter Tryd.func45, Tryd.ntmps45
        go_wp2
        go_ret
        rw [HE.out]
        exact ⟨rfl, HB3.out _ _ _, ((HB.out.setCell HG.out _).setCell HG.out _).setCell HG.out _⟩
      · have d3 : decide (r < 55296) = false := decide_eq_false (by omega)
        have d4 : decide (57343 < r) = true := decide_eq_true h2
        go_enter Tryd.func45, Tryd.ntmps45
        go_wp2
        go_ret
        rw [HE.out]
        exact ⟨rfl, HB3.out _ _ _, ((HB.out.setCell HG.out _).setCell HG.out _).setCell HG.out _⟩
    · have HE := Aside0.mk (show encN r = [240 + r / 262144, 128 + r / 4096 % 64, 128 + r / 64 % 64, 128 + r % 64] by unfold encN; rw [if_neg (by omega), if_neg a1, if_neg a2])
      have d2 : decide (r ≤ 65535) = false := decide_eq_false a2
      have d3 : decide (r < 55296) = false := decide_eq_false (by omega)
      have d4 : decide (57343 < r) = true := decide_eq_true (by omega)
      have d5 : decide (r > 65535) = true := decide_eq_true (by omega)
      have d6 : decide (r ≤ 1114111) = true := decide_eq_true h1
      go_enter Tryd.func45, Tryd.ntmps45
      go_wp2
      go_ret
      rw [HE.out]
      exact ⟨rfl, HB4.out _ _ _ _, (((HB.out.setCell HG.out _).setCell HG.out _).setCell HG.out _).setCell HG.out _⟩
set_option maxHeartbeats 4000000 in
set_option maxRecDepth 100000 in
theorem enc_calls (r : Int) (h0 : 0 ≤ r) (h1 : r ≤ 1114111) (h2 : r < 55296 ∨ 57343 < r) (g j n cap : Nat) (t : TypeId) (o : List Int) (hn : 4 ≤ n) (ho : j + 4 ≤ o.length) (B : Nat) (w0 w : World) (hb : Below B w0 w) (hg : B ≤ g) (hO : Ob g t o w) :
    Calls Tryd.prog 41 #[.slice (some ⟨g, j, none⟩) n cap, .int .i32 r] w fun e w' => e = .returned (.int .i64 ((encN r).length : Int)) ∧ Ob g t (wrt o j (encN r)) w' ∧ Below B w0 w' := by
  have e32 : IntKind.u32.wrap r = r := by rw [IntKind.wrap_u32]; omega
  by_cases a0 : r ≤ 127
  · have d1 : decide (r ≤ 127) = true := decide_eq_true a0
    have c0 : w.cell? ⟨g, j, none⟩ = some (.int .u8 (o.getD j 0)) := hO.cell j (by omega)
    have f0 : w.frozen? ⟨g, j, none⟩ = false := hO.free j
    obtain ⟨z0, hz0⟩ : ∃ z, o.getD j 0 = z := ⟨_, rfl⟩
    rw [hz0] at c0
    have n0 : 0 < n := by omega
    have HE := Aside0.mk (show encN r = [r] by unfold encN; rw [if_pos a0])
    have HB1 := Aside0.mk (hO.put j r)
    have HB := Aside0.mk hb
    have HG := Aside0.mk hg
    clear hO hb hg ho hz0
    go_enter Tryd.func41, Tryd.ntmps41
    go_wp2
    go_ret
    rw [HE.out]
    exact ⟨rfl, HB1.out, HB.out.setCell HG.out _⟩
  · have d1 : decide (r ≤ 127) = false := decide_eq_false a0
    have hc := enc_non r (by omega) h1 h2 g j n cap t o hn ho B w0 w hb hg hO
    clear hO hb hg h0 h1 h2 ho
    go_enter Tryd.func41, Tryd.ntmps41
    go_wp2_with (go_at_call 45; (with_reducible refine hc.mono ?_); rintro e w' ⟨rfl, HB, HW⟩; have H1 := Aside0.mk HB; have H2 := Aside0.mk HW; clear HB HW)
    go_ret
    exact ⟨rfl, H1.out, H2.out⟩
end Go.Proofs.YtobmnfbplmefoaaDoor.PFnJqPathOf
