/- A package variable that is a struct of two bools and an int, listed: its cells; no condition beside those that each theorem states. -/
import Derived.Deep.Strs
import Derived.Lib.LaidU8
import Derived.Test.YtpdohioobbfncaaGreatDoorProg
import Derived.Test.YtpdohioobbfncaaGreatDoorGXFnJpWildStop
import Derived.Test.YtpdohioobbfncaaGreatDoorRows
import Derived.Stop.LaidErr
namespace Go.Proofs.YtpdohioobbfncaaGreatDoor.PFnJpWildStop
open Go.RowKit Go.ChangeShapes Go.Deep
/-- A struct of three scalars: two bools and an int. -/
def cfg_fields (d : Option TypeDesc) (tb ti : TypeId) : Bool := match d with
  | some (.struct fs) => (match fs.toList with
    | [a, b, c] => a.type == tb && a.offset == 0 && b.type == tb && b.offset == 1 && c.type == ti && c.offset == 2
    | _ => false)
  | _ => false
theorem cfg_of_reads {P : Program} {W : World} {n : String} {g t tb ti : Nat} {b0 b1 : Bool} {z : Int} (h : Lib.VarReads P W n (.agg [.lit (.bool b0), .lit (.bool b1), .lit (.int .i64 z)]))
    (hg : P.globalNamed n = some g) (ht : (P.globals[g]?).map (·.type) = some t) (hs : cfg_fields (P.underlying t) tb ti = true) (hb : P.underlying tb = some .bool) (hi : P.underlying ti = some (.int .i64)) (cb : P.cellsOf tb = 1) (ci : P.cellsOf ti = 1) :
    W.cell? ⟨g, 0, none⟩ = some (.bool b0) ∧ W.cell? ⟨g, 1, none⟩ = some (.bool b1) ∧ W.cell? ⟨g, 2, none⟩ = some (.int .i64 z) := by
  obtain ⟨g', t', cs, fuel, p, h1, h2, h3, h4⟩ := h
  obtain rfl := Option.some.inj (hg.symm.trans h1)
  obtain rfl := Option.some.inj (ht.symm.trans h2)
  obtain ⟨fa, fb, fc, hu, a1, a2, a3, a4, a5, a6⟩ : ∃ fa fb fc : Field, P.underlying t = some (.struct #[fa, fb, fc]) ∧ fa.type = tb ∧ fa.offset = 0 ∧ fb.type = tb ∧ fb.offset = 1 ∧ fc.type = ti ∧ fc.offset = 2 := by
    cases hd : P.underlying t with
    | none => rw [hd] at hs; cases hs
    | some d =>
      rw [hd] at hs
      cases d <;> try cases hs
      rename_i fs
      unfold cfg_fields at hs
      dsimp only at hs
      split at hs
      · rename_i a b c hf
        obtain ⟨fs⟩ := fs
        dsimp only at hf
        subst hf
        simp only [Bool.and_eq_true, beq_iff_eq] at hs
        obtain ⟨⟨⟨⟨⟨x1, x2⟩, x3⟩, x4⟩, x5⟩, x6⟩ := hs
        exact ⟨a, b, c, rfl, x1, x2, x3, x4, x5, x6⟩
      · cases hs
  obtain ⟨y0, y1, y2, m, hx, _, k0, k1, k2⟩ := trod_struct3 hu h4
  rw [a1, a2, cb] at k0
  rw [a3, a4, cb] at k1
  rw [a5, a6, ci] at k2
  obtain ⟨v0, e0, rfl⟩ := DataW.trod_bool hb k0
  obtain ⟨v1, e1, rfl⟩ := DataW.trod_bool hb k1
  obtain ⟨v2, e2, rfl, _⟩ := DataW.trod_int hi k2
  simp only [Prod.mk.injEq, DataW.agg.injEq, List.cons.injEq, DataW.lit.injEq, Lit.bool.injEq, Lit.int.injEq, and_true, true_and] at hx
  obtain ⟨⟨rfl, rfl, rfl⟩, _⟩ := hx
  have at_ : ∀ (j : Nat) (v : Value), (cs.toList.drop j).take 1 = [v] → W.cell? ⟨g, j, none⟩ = some v := fun j v e => by
    have h5 := World.var?_cell hg h3 j
    rw [h5]
    have h6 : (cs.toList.drop j)[0]? = some v := by
      have : ((cs.toList.drop j).take 1)[0]? = some v := by rw [e]; rfl
      rwa [List.getElem?_take_of_lt (by omega)] at this
    rw [List.getElem?_drop] at h6
    simpa using h6
  exact ⟨at_ 0 _ e0, at_ 1 _ e1, at_ 2 _ e2⟩
end Go.Proofs.YtpdohioobbfncaaGreatDoor.PFnJpWildStop/- A package variable that is a table of bytes, listed: its cells; no condition beside those that each theorem states. -/
namespace Go.Proofs.YtpdohioobbfncaaGreatDoor.PFnJpWildStop
open Go.RowKit
theorem tab_of_reads {P : Program} {W : World} {n : String} {g t e m : Nat} {zs : List Int} (h : Lib.VarReads P W n (Lib.tabData .u8 zs))
    (hg : P.globalNamed n = some g) (ht : (P.globals[g]?).map (·.type) = some t) (hu : P.underlying t = some (.array m e)) (he : P.underlying e = some (.int .u8)) (ce : P.cellsOf e = 1) (ct : P.cellsOf t = m) (hm : zs.length = m) :
    ∀ c, c < m → W.cell? ⟨g, c, none⟩ = some (.int .u8 (zs.getD c 0)) := by
  intro c hc
  obtain ⟨g', t', cs, fuel, p, h1, h2, h3, h4⟩ := h
  obtain rfl := Option.some.inj (hg.symm.trans h1)
  obtain rfl := Option.some.inj (ht.symm.trans h2)
  have hcs := Lib.cells_of_tab hu he ce ct h4
  rw [World.var?_cell hg h3 c, ← Array.getElem?_toList, hcs]
  simp [List.getD_eq_getElem?_getD, show c < zs.length by omega]
end Go.Proofs.YtpdohioobbfncaaGreatDoor.PFnJpWildStop/- What the row lists of strconv's two error variables gives what the walk asks of the world; no condition beside those that each theorem states. -/
namespace Go.Proofs.YtpdohioobbfncaaGreatDoor.PFnJpWildStop
open Go.RowKit
/-- A struct of one field, of type t, at its beginning. -/
def one_field (d : Option TypeDesc) (t : TypeId) : Bool := match d with
  | some (.struct fs) => (match fs.toList with
    | [f] => f.type == t && f.offset == 0
    | _ => false)
  | _ => false
theorem star_ : "*" ++ "errors.errorString" = "*errors.errorString" := by decide
set_option maxRecDepth 100000 in
theorem row_err (u : TypeId) (h : Tryz.prog.typeName? 3 u = some "*errors.errorString") : u = 161 :=
  typeName_ptr_named (nm := "errors.errorString") (by rw [star_]; kernel_rfl) (by kernel_rfl) (by decide) u (by rw [star_]; exact h)
set_option maxRecDepth 100000 in
theorem sent_ {n : String} {text : List UInt8} {r : List (String × DataW Unit)} {W : World} {g : Nat}
    (h : laidMet Tryz.prog ((n, .iface "*errors.errorString" (.ptr (.agg [.lit (.string text)]))) :: r) W)
    (hg : Tryz.prog.globalNamed n = some g) (ht : (Tryz.prog.globals[g]?).map (·.type) = some 48) : Held g W := by
  have hi : Tryz.prog.underlying 48 = some (.interface #[("Error", 176)]) := by kernel_rfl
  have hp : Tryz.prog.underlying 161 = some (.pointer 163) := by kernel_rfl
  obtain ⟨f, he, hft, hfo⟩ : ∃ f : Field, Tryz.prog.underlying 163 = some (.struct #[f]) ∧ f.type = 9 ∧ f.offset = 0 := by
    have hq : one_field (Tryz.prog.underlying 163) 9 = true := by kernel_rfl
    cases hu : Tryz.prog.underlying 163 with
    | none => rw [hu] at hq; cases hq
    | some d =>
      rw [hu] at hq
      cases d <;> try cases hq
      rename_i fs
      unfold one_field at hq
      dsimp only at hq
      split at hq
      · rename_i f hf
        rw [Bool.and_eq_true, beq_iff_eq, beq_iff_eq] at hq
        obtain ⟨fs⟩ := fs
        dsimp only at hf
        subst hf
        exact ⟨f, rfl, hq.1, hq.2⟩
      · cases hq
  have hs : Tryz.prog.underlying 9 = some .string := by kernel_rfl
  obtain ⟨a, s, hv, _, _, _⟩ := laid_sentinel h hg ht hi row_err hp he hft hfo hs (by kernel_rfl) (by kernel_rfl)
  have h0 := World.var?_cell hg hv 0
  exact ⟨_, _, by simpa using h0⟩
/-- A listed error variable: its block has no view of it frozen. -/
theorem laid_unfrozen {P : Program} {n nm : String} {text : List UInt8} {r : List (String × DataW Unit)} {W : World} {g : Nat} {ti tp te ts : TypeId} {ms : Array (String × TypeId)} {f : Field}
    (h : laidMet P ((n, .iface nm (.ptr (.agg [.lit (.string text)]))) :: r) W)
    (hg : P.globalNamed n = some g) (ht : (P.globals[g]?).map (·.type) = some ti) (hi : P.underlying ti = some (.interface ms)) (hrow : ∀ u, P.typeName? 3 u = some nm → u = tp)
    (hp : P.underlying tp = some (.pointer te)) (he : P.underlying te = some (.struct #[f])) (hft : f.type = ts) (hfo : f.offset = 0) (hs : P.underlying ts = some .string) (hc : P.cellsOf te = 1) (hcs : P.cellsOf ts = 1) :
    ∃ (a : Addr) (s : ByteArray) (ca : Array Value) (ta : TypeId), W.var? P n = some #[.iface tp (.pointer (some a))] ∧ W.cell? a = some (.string s) ∧ s.data.toList = text ∧ W.heap[a.block]? = some (.cells ca ta (0, 0)) := by
  obtain ⟨ps, ⟨g0, t0, cs0, f0, p0, q0, hg0, ht0, hv0, hd0, _, e0⟩, _, hrows⟩ := h
  obtain rfl := Option.some.inj (hg.symm.trans hg0)
  obtain rfl := Option.some.inj (ht.symm.trans ht0)
  subst e0
  obtain ⟨l0⟩ := cs0
  have ok0 : ∀ u v, l0 = [.iface u v] → Value.okWide P W .any 0 u v := fun u v e => by
    subst e
    exact (hrows g 0 (by simp [MemPlace.row])).2 u v (by simpa using World.var?_cell hg0 hv0 0)
  obtain ⟨a0, s0, rfl, hc0, hs0, hz0, hpp⟩ := errorString_of_trod hi hrow hp he hft hfo hs hc hcs hd0 ok0
  obtain ⟨⟨ca, ta, hh⟩, _⟩ := hrows a0.block a0.off (by simp [hpp, MemPlace.row])
  exact ⟨a0, s0, ca, ta, hv0, hc0, hs0, hh⟩
set_option maxRecDepth 100000 in
theorem sent2_ {n : String} {text : List UInt8} {r : List (String × DataW Unit)} {W : World} {g : Nat}
    (h : laidMet Tryz.prog ((n, .iface "*errors.errorString" (.ptr (.agg [.lit (.string text)]))) :: r) W)
    (hg : Tryz.prog.globalNamed n = some g) (ht : (Tryz.prog.globals[g]?).map (·.type) = some 48) : Sent g text W := by
  have hi : Tryz.prog.underlying 48 = some (.interface #[("Error", 176)]) := by kernel_rfl
  have hp : Tryz.prog.underlying 161 = some (.pointer 163) := by kernel_rfl
  obtain ⟨f, he, hft, hfo⟩ : ∃ f : Field, Tryz.prog.underlying 163 = some (.struct #[f]) ∧ f.type = 9 ∧ f.offset = 0 := by
    have hq : one_field (Tryz.prog.underlying 163) 9 = true := by kernel_rfl
    cases hu : Tryz.prog.underlying 163 with
    | none => rw [hu] at hq; cases hq
    | some d =>
      rw [hu] at hq
      cases d <;> try cases hq
      rename_i fs
      unfold one_field at hq
      dsimp only at hq
      split at hq
      · rename_i f hf
        rw [Bool.and_eq_true, beq_iff_eq, beq_iff_eq] at hq
        obtain ⟨fs⟩ := fs
        dsimp only at hf
        subst hf
        exact ⟨f, rfl, hq.1, hq.2⟩
      · cases hq
  have hs : Tryz.prog.underlying 9 = some .string := by kernel_rfl
  obtain ⟨a, s, ca, ta, hv, hc, hs2, hb⟩ := laid_unfrozen h hg ht hi row_err hp he hft hfo hs (by kernel_rfl) (by kernel_rfl)
  have h0 := World.var?_cell hg hv 0
  exact ⟨a, s, ca, ta, by simpa using h0, hc, hs2, hb⟩
set_option maxRecDepth 100000 in
theorem glob_of_laid {W : World} (h : laidMet Tryz.prog Rows.fnJpWildStopRow.laid W) : Glob W := by
  have h1 : laidMet Tryz.prog (_ :: _ :: _ :: ("strconv.ErrRange", .iface "*errors.errorString" (.ptr (.agg [.lit (.string _)]))) :: ("strconv.ErrSyntax", .iface "*errors.errorString" (.ptr (.agg [.lit (.string _)]))) :: ("io.EOF", .iface "*errors.errorString" (.ptr (.agg [.lit (.string _)]))) :: _ :: _ :: ("pub-tetrapla/pub/jsonparser.KeyPathNotFoundError", .iface "*errors.errorString" (.ptr (.agg [.lit (.string _)]))) :: ("pub-tetrapla/pub/jsonparser.UnknownValueTypeError", .iface "*errors.errorString" (.ptr (.agg [.lit (.string _)]))) :: ("pub-tetrapla/pub/jsonparser.MalformedJsonError", .iface "*errors.errorString" (.ptr (.agg [.lit (.string _)]))) :: ("pub-tetrapla/pub/jsonparser.MalformedStringError", .iface "*errors.errorString" (.ptr (.agg [.lit (.string _)]))) :: ("pub-tetrapla/pub/jsonparser.MalformedArrayError", .iface "*errors.errorString" (.ptr (.agg [.lit (.string _)]))) :: ("pub-tetrapla/pub/jsonparser.MalformedObjectError", .iface "*errors.errorString" (.ptr (.agg [.lit (.string _)]))) :: ("pub-tetrapla/pub/jsonparser.MalformedStringEscapeError", .iface "*errors.errorString" (.ptr (.agg [.lit (.string _)]))) :: ("pub-tetrapla/impl.errStop", .iface "*errors.errorString" (.ptr (.agg [.lit (.string _)]))) :: []) W := h
  have c2 := cfg_of_reads (g := 2) (t := 72) (tb := 4) (ti := 3) (Lib.laidMet.reads h (.tail _ (.tail _ (.tail _ (.tail _ (.tail _ (.tail _ (.head _)))))))) (by kernel_rfl) (by kernel_rfl) (by kernel_rfl) (by kernel_rfl) (by kernel_rfl) (by kernel_rfl) (by kernel_rfl)
  have tbescT := tab_of_reads (g := 14) (t := 127) (e := 5) (m := 117) (zs := escT) (show Lib.VarReads _ W _ (Lib.tabData .u8 escT) from (Lib.laidMet.reads h (.tail _ (.tail _ (.tail _ (.tail _ (.tail _ (.tail _ (.tail _ (.head _)))))))))) (by kernel_rfl) (by kernel_rfl) Tryz.underlying127 Tryz.underlying5 (by kernel_rfl) (by kernel_rfl) rfl
  exact ⟨sent_ h1.tail.tail.tail (by kernel_rfl) (by kernel_rfl), sent_ h1.tail.tail.tail.tail (by kernel_rfl) (by kernel_rfl), sent_ h1.tail.tail.tail.tail.tail (by kernel_rfl) (by kernel_rfl), sent_ h1.tail.tail.tail.tail.tail.tail.tail.tail (by kernel_rfl) (by kernel_rfl), sent_ h1.tail.tail.tail.tail.tail.tail.tail.tail.tail (by kernel_rfl) (by kernel_rfl), sent_ h1.tail.tail.tail.tail.tail.tail.tail.tail.tail.tail (by kernel_rfl) (by kernel_rfl), sent_ h1.tail.tail.tail.tail.tail.tail.tail.tail.tail.tail.tail (by kernel_rfl) (by kernel_rfl), sent_ h1.tail.tail.tail.tail.tail.tail.tail.tail.tail.tail.tail.tail (by kernel_rfl) (by kernel_rfl), sent_ h1.tail.tail.tail.tail.tail.tail.tail.tail.tail.tail.tail.tail.tail (by kernel_rfl) (by kernel_rfl), sent_ h1.tail.tail.tail.tail.tail.tail.tail.tail.tail.tail.tail.tail.tail.tail (by kernel_rfl) (by kernel_rfl), sent_ h1.tail.tail.tail.tail.tail.tail.tail.tail.tail.tail.tail.tail.tail.tail.tail (by kernel_rfl) (by kernel_rfl), c2.1, c2.2.1, c2.2.2, tbescT, sent2_ h1.tail.tail.tail.tail.tail.tail.tail.tail.tail.tail.tail.tail.tail.tail.tail (by kernel_rfl) (by kernel_rfl), sent2_ h1.tail.tail.tail.tail.tail (by kernel_rfl) (by kernel_rfl)⟩
end Go.Proofs.YtpdohioobbfncaaGreatDoor.PFnJpWildStop