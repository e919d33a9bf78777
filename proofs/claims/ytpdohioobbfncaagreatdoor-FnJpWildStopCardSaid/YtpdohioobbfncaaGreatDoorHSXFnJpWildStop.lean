/- What searchKeysConfig comes to, round by round, as a relation; its parts; no condition beside those that each theorem states. -/
import Derived.Test.YtpdohioobbfncaaGreatDoorHCLFnJpWildStop
import Derived.Test.YtpdohioobbfncaaGreatDoorHECFnJpWildStop
import Derived.Laws.Cover3
namespace Go.Proofs.YtpdohioobbfncaaGreatDoor.PFnJpWildStop
open Go.RowKit Go.Proofs.YtpdohioobbfncaaGreatDoorW.PrintWords Go.Proofs.YtpdohioobbfncaaGreatDoorW.PrintLast Go.Proofs.YtpdohioobbfncaaGreatDoorW.PrintMore
set_option linter.unusedVariables false
set_option linter.unusedSimpArgs false
/-- A string from behind its mark: where it ends, whether a backslash stands in it. -/
def SE (s : ByteArray) (e a z : Nat) (es : Bool) : Prop := ∃ k, sEC_.f k false false 0 (win s a e) 34 = some (((z - a : Nat) : Int), es)
/-- A block's end. -/
def BEn (s : ByteArray) (e a z : Nat) (o c : Int) : Prop := ∃ k, bEC_.f k false false 0 (win s a e) o c = some ((z - a : Nat) : Int)
/-- A name's characters. -/
def NMs (s : ByteArray) (a z : Nat) (es : Bool) (nm : List Int) : Prop := if es = true then 92 ∈ win s a z ∧ Un (win s a z) nm else nm = win s a z
/-- A string with what stands behind it. -/
structure St (s : ByteArray) (e p q t : Nat) (es : Bool) : Prop where
  c : bt s (p : Int) = 34
  se : SE s e (p + 1) q es
  pq : p + 2 ≤ q
  nt : NT s e q t
  qt : q ≤ t
  te : t < e
/-- A key of the form "[n]". -/
structure Ix (key : ByteArray) (ai : Nat) : Prop where
  lo : 3 ≤ key.size
  hi : key.size ≤ 20
  b0 : bt key 0 = 91
  b1 : bt key ((key.size : Int) - 1) = 93
  at_ : Lib.atoi (key.extract 1 (key.size - 1)).data.toList = some (ai : Int)
  small : ai ≤ 2147483647
/-- The rounds of searchKeysConfig from a place on: how many keys are matched, the level, the place, whether the last name did match; the place that is found at last. -/
inductive SR (s : ByteArray) : Nat → List ByteArray → Int → Int → Nat → Bool → Option Nat → Prop
  | nil {e : Nat} {p : Nat} : SR s e [] 0 0 p true (some p)
  | fin {e : Nat} {keys : List ByteArray} {kl lev : Int} {lm : Bool} : SR s e keys kl lev e lm none
  | skip {e : Nat} {keys : List ByteArray} {kl lev : Int} {p : Nat} {lm : Bool} {r : Option Nat} (hp : p < e) (hc : bt s (p : Int) ≠ 34 ∧ bt s (p : Int) ≠ 39 ∧ bt s (p : Int) ≠ 58 ∧ bt s (p : Int) ≠ 91 ∧ bt s (p : Int) ≠ 123 ∧ bt s (p : Int) ≠ 125) (h : SR s e keys kl lev (p + 1) lm r) : SR s e keys kl lev p lm r
  | str {e : Nat} {keys : List ByteArray} {kl lev : Int} {p q t : Nat} {es lm : Bool} {r : Option Nat} (h1 : St s e p q t es) (hc : bt s (t : Int) ≠ 58) (h : SR s e keys kl lev t lm r) : SR s e keys kl lev p lm r
  | keyEnd {e : Nat} {keys : List ByteArray} {kl : Int} {j p q t : Nat} {es lm : Bool} {nm : List Int} (h1 : St s e p q t es) (hc : bt s (t : Int) = 58) (hn : NMs s (p + 1) (q - 1) es nm) (hj : j < keys.length) (hk : (strOfNums nm).toList = (keys.getD j ByteArray.empty).toList) (hkl : kl = (j : Int)) (hl : j + 1 = keys.length) : SR s e keys kl ((j : Int) + 1) p lm (some (t + 1))
  | keyUp {e : Nat} {keys : List ByteArray} {kl : Int} {j p q t : Nat} {es lm : Bool} {nm : List Int} {r : Option Nat} (h1 : St s e p q t es) (hc : bt s (t : Int) = 58) (hn : NMs s (p + 1) (q - 1) es nm) (hj : j < keys.length) (hk : (strOfNums nm).toList = (keys.getD j ByteArray.empty).toList) (hkl : kl = (j : Int)) (hl : j + 1 ≠ keys.length) (h : SR s e keys ((j : Int) + 1) ((j : Int) + 1) (t + 1) true r) : SR s e keys kl ((j : Int) + 1) p lm r
  | keyNe {e : Nat} {keys : List ByteArray} {kl : Int} {j p q t : Nat} {es lm : Bool} {nm : List Int} {r : Option Nat} (h1 : St s e p q t es) (hc : bt s (t : Int) = 58) (hn : NMs s (p + 1) (q - 1) es nm) (hj : j < keys.length) (hk : (strOfNums nm).toList ≠ (keys.getD j ByteArray.empty).toList) (h : SR s e keys kl ((j : Int) + 1) (t + 1) false r) : SR s e keys kl ((j : Int) + 1) p lm r
  | opn {e : Nat} {keys : List ByteArray} {kl lev : Int} {p : Nat} {r : Option Nat} (hp : p < e) (hc : bt s (p : Int) = 123) (h : SR s e keys kl (lev + 1) (p + 1) true r) : SR s e keys kl lev p true r
  | past {e : Nat} {keys : List ByteArray} {kl lev : Int} {p q : Nat} {r : Option Nat} (hp : p < e) (hc : bt s (p : Int) = 123) (hb : BEn s e p q 123 125) (pq : p < q) (qe : q ≤ e) (h : SR s e keys kl lev q false r) : SR s e keys kl lev p false r
  | cls {e : Nat} {keys : List ByteArray} {kl lev : Int} {p : Nat} {lm : Bool} {r : Option Nat} (hp : p < e) (hc : bt s (p : Int) = 125) (h : SR s e keys (if lev - 1 = kl then kl - 1 else kl) (lev - 1) (p + 1) lm r) : SR s e keys kl lev p lm r
  | arr {e : Nat} {keys : List ByteArray} {kl lev : Int} {p q : Nat} {lm : Bool} {r : Option Nat} (hp : p < e) (hc : bt s (p : Int) = 91) (hk : kl = lev → 0 ≤ lev ∧ lev < keys.length ∧ ¬ (0 < (keys.getD lev.toNat ByteArray.empty).size ∧ bt (keys.getD lev.toNat ByteArray.empty) 0 = 91)) (hb : BEn s e p q 91 93) (pq : p < q) (qe : q ≤ e) (h : SR s e keys kl lev q lm r) : SR s e keys kl lev p lm r
  | idx {e : Nat} {keys : List ByteArray} {j p ai x y f : Nat} {kd : Int} {lm : Bool} {els : List (Nat × Nat × Int)} {r : Option Nat} (hp : p < e) (hc : bt s (p : Int) = 91) (hj : j < keys.length) (hk : Ix (keys.getD j ByteArray.empty) ai) (ha : AE s e p els f) (hl : els.length ≤ 2147483647) (hx : els[ai]? = some (x, y, kd)) (h : SR s y (keys.drop (j + 1)) 0 0 x true r) (h0 : keys.drop (j + 1) = [] → r = some x) : SR s e keys (j : Int) (j : Int) p lm r
/-- A row of texts. -/
structure Ky (kb ko : Nat) (keys : List ByteArray) (W : World) : Prop where
  cell : ∀ j : Nat, j < keys.length → W.cell? ⟨kb, ko + j, none⟩ = some (.string (keys.getD j ByteArray.empty))
theorem Ky.more {kb ko : Nat} {keys : List ByteArray} {W W' : World} (h : Ky kb ko keys W) (hb : Below W.heap.size W W') : Ky kb ko keys W' := ⟨fun j hj => keep_ (h.cell j hj) hb⟩
theorem Ky.drop {kb ko : Nat} {keys : List ByteArray} {W : World} (h : Ky kb ko keys W) (k : Nat) : Ky kb (ko + k) (keys.drop k) W := by
  refine ⟨fun j hj => ?_⟩
  rw [List.length_drop] at hj
  rw [Nat.add_assoc, h.cell (k + j) (by omega)]
  simp [List.getD_eq_getElem?_getD, List.getElem?_drop]
/-- What the search looks at: the text, the keys, and its own three blocks. -/
structure Sk (b a n c : Nat) (s : ByteArray) (kb ko : Nat) (keys : List ByteArray) (w0 W : World) : Prop where
  below : Below w0.heap.size w0 W
  lt : w0.heap.size + 2 < W.heap.size
  glob : Glob w0
  text : Tx b s w0
  key : Ky kb ko keys w0
  cfg0 : W.cell? ⟨w0.heap.size, 0, none⟩ = some (.bool false)
  cfg1 : W.cell? ⟨w0.heap.size, 1, none⟩ = some (.bool false)
  cfg2 : W.cell? ⟨w0.heap.size, 2, none⟩ = some (.int .i64 0)
  data : Bx (w0.heap.size + 1) (.slice (some ⟨b, a, none⟩) n c) W
  buf : ∃ out, out.length = 64 ∧ Ob (w0.heap.size + 2) 94 out W
theorem Sk.more {b a n c : Nat} {s : ByteArray} {kb ko : Nat} {keys : List ByteArray} {w0 W W' : World} (h : Sk b a n c s kb ko keys w0 W) (hb : Below W.heap.size W W') : Sk b a n c s kb ko keys w0 W' :=
  ⟨below_step h.below hb, Nat.lt_of_lt_of_le h.lt hb.size, h.glob, h.text, h.key, keep_ h.cfg0 hb, keep_ h.cfg1 hb, keep_ h.cfg2 hb, h.data.more hb, by obtain ⟨out, h1, h2⟩ := h.buf; exact ⟨out, h1, h2.more hb⟩⟩
theorem Sk.bes {b a n c : Nat} {s : ByteArray} {kb ko : Nat} {keys : List ByteArray} {w0 W W' : World} (h : Sk b a n c s kb ko keys w0 W) {P : Nat → Prop} (hP : ∀ k, P k → w0.heap.size + 2 ≤ k) (hb : Bes P W W') (hO : ∃ out, out.length = 64 ∧ Ob (w0.heap.size + 2) 94 out W') : Sk b a n c s kb ko keys w0 W' := by
  have p0 : ¬ P w0.heap.size := fun h => by have := hP _ h; omega
  have p1 : ¬ P (w0.heap.size + 1) := fun h => by have := hP _ h; omega
  have hlt := h.lt
  refine ⟨h.below.trans (hb.below (by omega) (fun k hk => by have := hP k hk; omega)), Nat.lt_of_lt_of_le h.lt hb.size, h.glob, h.text, h.key, hb.cell p0 h.cfg0, hb.cell p0 h.cfg1, hb.cell p0 h.cfg2, ?_, hO⟩
  obtain ⟨t, ht⟩ := h.data
  exact ⟨t, (hb.block _ (by omega) p1).trans ht⟩
theorem Sk.drew {b a n c : Nat} {s : ByteArray} {kb ko : Nat} {keys : List ByteArray} {w0 W : World} (h : Sk b a n c s kb ko keys w0 W) : Sk b a n c s kb ko keys w0 W.drew := h.more (Below.refl _ _).drew
theorem Sk.globW {b a n c : Nat} {s : ByteArray} {kb ko : Nat} {keys : List ByteArray} {w0 W : World} (h : Sk b a n c s kb ko keys w0 W) : Glob W := h.glob.below h.below
theorem Sk.textW {b a n c : Nat} {s : ByteArray} {kb ko : Nat} {keys : List ByteArray} {w0 W : World} (h : Sk b a n c s kb ko keys w0 W) : Tx b s W := h.text.more h.below
theorem Sk.keyW {b a n c : Nat} {s : ByteArray} {kb ko : Nat} {keys : List ByteArray} {w0 W : World} (h : Sk b a n c s kb ko keys w0 W) : Ky kb ko keys W := h.key.more h.below
theorem Sk.cells {b a n c : Nat} {s : ByteArray} {kb ko : Nat} {keys : List ByteArray} {w0 W : World} (h : Sk b a n c s kb ko keys w0 W) : W.cell? ⟨w0.heap.size, 0, none⟩ = some (.bool false) ∧ W.cell? ⟨w0.heap.size, 1, none⟩ = some (.bool false) ∧ W.cell? ⟨w0.heap.size, 2, none⟩ = some (.int .i64 0) ∧ W.cell? ⟨w0.heap.size + 1, 0, none⟩ = some (.slice (some ⟨b, a, none⟩) n c) ∧ Aside0 (Sk b a n c s kb ko keys w0 W) := ⟨h.cfg0, h.cfg1, h.cfg2, h.data.cell, ⟨h⟩⟩
/-- What is told of a place that is found. -/
def ret (a : Nat) : Option Nat → Int
  | some q => ((q - a : Nat) : Int)
  | none => -1
set_option maxHeartbeats 4000000 in
set_option maxRecDepth 100000 in
theorem equal_calls (p b o n c : Nat) (xs : List Int) (key : ByteArray) (w : World) (h1 : w.cell? ⟨p, 0, none⟩ = some (.slice (some ⟨b, o, none⟩) n c)) (hl : xs.length = n) (hH : Hd b o xs w) :
    Calls Tryz.prog 66 #[.pointer (some ⟨p, 0, none⟩), .string key] w fun e w' => e = .returned (.bool ((strOfNums xs).toList == key.toList)) ∧ w' = w := by
  have hcv : (convert 51 9 (.slice (some ⟨b, o, none⟩) n c)).run Tryz.prog w = .ok (.string (strOfNums xs)) w :=
    run_convert_bytes_arg w 51 5 Tryz.underlying51 Tryz.underlying5 b o n c xs hl (fun i hi => hH.cell i (by omega)) 9 Tryz.underlying9
  obtain ⟨x, hx⟩ : ∃ x, strOfNums xs = x := ⟨_, rfl⟩
  rw [hx] at hcv ⊢
  clear hH hl hx
  go_enter Tryz.func66, Tryz.ntmps66
  go_wp2
  go_ret
  exact ⟨rfl, rfl⟩
end Go.Proofs.YtpdohioobbfncaaGreatDoor.PFnJpWildStop/- unescapeConfig into the search's own buffer, and the comparison of a name with a key; no condition beside those that each theorem states. -/
namespace Go.Proofs.YtpdohioobbfncaaGreatDoor.PFnJpWildStop
open Go.RowKit Go.Proofs.YtpdohioobbfncaaGreatDoorW.PrintWords Go.Proofs.YtpdohioobbfncaaGreatDoorW.PrintLast Go.Proofs.YtpdohioobbfncaaGreatDoorW.PrintMore
set_option linter.unusedVariables false
set_option linter.unusedSimpArgs false
theorem stack_slice (W : World) (g : Nat) : (Instr.sliceAt 94 (.pointer (some ⟨g, 0, none⟩)) none none none).run Tryz.prog W = .ok (.slice (some ⟨g, 0, none⟩) 64 64) W := by
  have ht : Tryz.prog.underlying 94 = some (.array 64 5) := Tryz.underlying94
  have hel : Tryz.prog.elem 94 = 5 := by simp [Program.elem, ht]
  have hal : Tryz.prog.arrayLen 94 = 64 := by simp [Program.arrayLen, ht]
  rw [run_sliceAt_array_all W 94 _ (by rw [hel, hal]; exact ht), hel, hal]
  simp [go_sem, Tryz.sizeOf5, slicedAt, Result.andThen, Addr.add]
theorem Ob.hd {G : Nat} {t : TypeId} {out nm : List Int} {W : World} (h : Ob G t out W) (ht : out.take nm.length = nm) (hl : nm.length ≤ out.length) : Hd G 0 nm W := by
  refine ⟨fun i hi => ?_⟩
  rw [Nat.zero_add, h.cell i (by omega)]
  congr 2
  conv => rhs; rw [← ht]
  simp [List.getD_eq_getElem?_getD, List.getElem?_take, hi]
theorem unesc_calls (l nm : List Int) (hU : Un l nm) (b o n c : Nat) (hl : l.length = n) (hc : n ≤ c) (hz : n ≤ 140737488355328) (hr : ∀ x ∈ l, 0 ≤ x ∧ x < 256) (h92 : 92 ∈ l) (g : Nat) (out0 : List Int) (hol : out0.length = 64) (hbg : b ≠ g)
    (w : World) (hG : ∀ W, Bes (fun k => k = g) w W → Glob W) (hH : Hd b o l w) (hO0 : Ob g 94 out0 w) :
    Calls Tryz.prog 54 #[cfgV, .slice (some ⟨b, o, none⟩) n c, .slice (some ⟨g, 0, none⟩) 64 64] w fun e' w' => ∃ G cp, e' = .returned (.tuple #[.slice (some ⟨G, 0, none⟩) nm.length cp, .nilIface]) ∧ (G = g ∨ w.heap.size ≤ G) ∧ Hd G 0 nm w' ∧ (∃ out, out.length = 64 ∧ Ob g 94 out w') ∧ Bes (fun k => k = g) w w' := by
  by_cases hn : n ≤ 64
  · refine (unesc_buf l nm hU b o n c hl hc hz hr h92 g 64 94 out0 hn hbg w hG hH hO0 hol).mono ?_
    rintro e' w' ⟨rfl, h1, ⟨out, h2, h3, h4⟩, h5⟩
    exact ⟨g, 64, rfl, .inl rfl, h4.hd h3 (by omega), ⟨out, h2, h4⟩, h5⟩
  · refine (unesc_made l nm hU b o n c hl hc hz hr h92 (some ⟨g, 0, none⟩) 64 64 (by omega) w (hG w (Bes.refl _ _)) hH).mono ?_
    rintro e' w' ⟨rfl, h1, ⟨out, h2, h3, h4⟩, h5⟩
    have hb := h5.below (B := w.heap.size) (Nat.le_refl _) (fun k hk => hk)
    exact ⟨_, n, rfl, .inr (Nat.le_succ _), h4.hd h3 (by omega), ⟨out0, hol, hO0.more hb⟩, Bes.of_below hb⟩
theorem Hd.other {b o g : Nat} {l : List Int} {W : World} {v : Value} (h : Hd b o l W) (hg : b ≠ g) : Hd b o l (W.setCell ⟨g, 0, none⟩ v) := h.bes (P := fun k => k = g) hg ((Bes.refl _ W).set g 0 v rfl)
theorem Sk.put {b a n c : Nat} {s : ByteArray} {kb ko : Nat} {keys : List ByteArray} {w0 W : World} (h : Sk b a n c s kb ko keys w0 W) {Q : Nat} (hQ : w0.heap.size + 3 ≤ Q) (v : Value) : Sk b a n c s kb ko keys w0 (W.setCell ⟨Q, 0, none⟩ v) := by
  refine h.bes (P := fun k => k = Q) (fun k hk => by omega) ((Bes.refl _ W).set Q 0 v rfl) ?_
  obtain ⟨out, h1, ⟨h2⟩⟩ := h.buf
  exact ⟨out, h1, ⟨(Below.heap_setCell _ _ _ _ (show w0.heap.size + 2 ≠ Q by omega)).trans h2⟩⟩
/-- With the name's own block. -/
structure Sq (b a n c : Nat) (s : ByteArray) (kb ko : Nat) (keys : List ByteArray) (Q : Nat) (v : Value) (w0 W : World) : Prop where
  sk : Sk b a n c s kb ko keys w0 W
  bx : Bx Q v W
  q : w0.heap.size + 3 ≤ Q
theorem Sq.more {b a n c : Nat} {s : ByteArray} {kb ko : Nat} {keys : List ByteArray} {Q : Nat} {v : Value} {w0 W W' : World} (h : Sq b a n c s kb ko keys Q v w0 W) (hb : Below W.heap.size W W') : Sq b a n c s kb ko keys Q v w0 W' := ⟨h.sk.more hb, h.bx.more hb, h.q⟩
theorem Sq.drew {b a n c : Nat} {s : ByteArray} {kb ko : Nat} {keys : List ByteArray} {Q : Nat} {v : Value} {w0 W : World} (h : Sq b a n c s kb ko keys Q v w0 W) : Sq b a n c s kb ko keys Q v w0 W.drew := h.more (Below.refl _ _).drew
theorem Sq.cells {b a n c : Nat} {s : ByteArray} {kb ko : Nat} {keys : List ByteArray} {Q : Nat} {v : Value} {w0 W : World} (h : Sq b a n c s kb ko keys Q v w0 W) : W.cell? ⟨w0.heap.size, 0, none⟩ = some (.bool false) ∧ W.cell? ⟨w0.heap.size, 1, none⟩ = some (.bool false) ∧ W.cell? ⟨w0.heap.size, 2, none⟩ = some (.int .i64 0) ∧ W.cell? ⟨w0.heap.size + 1, 0, none⟩ = some (.slice (some ⟨b, a, none⟩) n c) ∧ Aside0 (Sq b a n c s kb ko keys Q v w0 W) := ⟨h.sk.cfg0, h.sk.cfg1, h.sk.cfg2, h.sk.data.cell, ⟨h⟩⟩
theorem Sq.start {b a n c : Nat} {s : ByteArray} {kb ko : Nat} {keys : List ByteArray} {w0 W : World} (h : Sk b a n c s kb ko keys w0 W) (v : Value) (t : TypeId) : Sq b a n c s kb ko keys W.heap.size v w0 (W.alloc (.cells #[v] t)) := ⟨h.more (below_alloc_ _ _), Bx.new _ _ _, h.lt⟩
/-- unescapeConfig where the search calls it. -/
theorem Sq.unesc {b a n c : Nat} {s : ByteArray} {kb ko : Nat} {keys : List ByteArray} {Q : Nat} {v : Value} {w0 W : World} (h : Sq b a n c s kb ko keys Q v w0 W) {x z : Nat} {nm : List Int} (hU : Un (win s x z) nm) (h92 : 92 ∈ win s x z) (hz : z ≤ s.size) (hs : s.size ≤ 2147483647) (cx : Nat) (hc : z - x ≤ cx) :
    Calls Tryz.prog 54 #[cfgV, .slice (some ⟨b, x, none⟩) (z - x) cx, .slice (some ⟨w0.heap.size + 1 + 1, 0, none⟩) 64 64] W fun e' w' => ∃ G cp, e' = .returned (.tuple #[.slice (some ⟨G, 0, none⟩) nm.length cp, .nilIface]) ∧ G ≠ Q ∧ Hd G 0 nm w' ∧ Sq b a n c s kb ko keys Q v w0 w' := by
  have hlt := h.sk.lt
  have hq := h.q
  have hQ := h.bx.lt
  obtain ⟨out, h1, h2⟩ := h.sk.buf
  have ht := h.sk.textW
  have hb0 : b < w0.heap.size := by
    have hx : x < z := by
      apply Nat.lt_of_not_le
      intro hle
      have : win s x z = [] := by unfold win; rw [Nat.sub_eq_zero_of_le hle]; rfl
      rw [this] at h92
      cases h92
    exact World.block_lt_of_cell? w0 _ (h.sk.text.cell x (by omega))
  refine (unesc_calls (win s x z) nm hU b x (z - x) cx (win_len _ _ _) hc (by omega) (win_rng _ _ _) h92 (w0.heap.size + 1 + 1) out h1 (by omega) W (fun W' hB => h.sk.glob.below (h.sk.below.trans (hB.below (by omega) (fun k hk => by omega)))) (ht.hd x z hz) h2).mono ?_
  rintro e' w' ⟨G, cp, rfl, hG, hH, hO, hB⟩
  refine ⟨G, cp, rfl, by omega, hH, h.sk.bes (fun k hk => by omega) hB hO, ?_, hq⟩
  obtain ⟨t, hbt⟩ := h.bx
  exact ⟨t, (hB.block Q hQ (by omega)).trans hbt⟩
end Go.Proofs.YtpdohioobbfncaaGreatDoor.PFnJpWildStop/- The element of an array that searchKeysConfig looks for; no condition beside those that each theorem states. -/
namespace Go.Proofs.YtpdohioobbfncaaGreatDoor.PFnJpWildStop
open Go.RowKit Go.Proofs.YtpdohioobbfncaaGreatDoorW.PrintWords Go.Proofs.YtpdohioobbfncaaGreatDoorW.PrintLast Go.Proofs.YtpdohioobbfncaaGreatDoorW.PrintMore
set_option linter.unusedVariables false
set_option linter.unusedSimpArgs false
theorem EL.bounds {s : ByteArray} {e a f : Nat} {els : List (Nat × Nat × Int)} (h : EL s e a els f) : ∀ q ∈ els, a ≤ q.1 ∧ q.1 < q.2.1 ∧ q.2.1 ≤ e ∧ (q.2.2 = 1 → q.1 + 2 ≤ q.2.1) := by
  induction h with
  | last hg nt yz ze hz =>
    intro q hq
    rcases List.mem_singleton.1 hq with rfl
    exact ⟨hg.ax, hg.xy, hg.ye, fun hk => by subst hk; exact hg.two⟩
  | more hg nt yz ze hz t ih =>
    intro q hq
    rcases List.mem_cons.1 hq with rfl | hq
    · exact ⟨hg.ax, hg.xy, hg.ye, fun hk => by subst hk; exact hg.two⟩
    · have := ih q hq
      have := hg.ax
      have := hg.xy
      omega
theorem AE.bounds {s : ByteArray} {e p f : Nat} {els : List (Nat × Nat × Int)} (h : AE s e p els f) : ∀ q ∈ els, p ≤ q.1 ∧ q.1 < q.2.1 ∧ q.2.1 ≤ e ∧ (q.2.2 = 1 → q.1 + 2 ≤ q.2.1) := by
  obtain ⟨q0, h1, h2, h3, h4⟩ := h.q
  intro q hq
  rcases h4 with ⟨_, rfl, _⟩ | ⟨_, h4⟩
  · cases hq
  · have := h4.bounds q hq
    omega
theorem SR.ge {s : ByteArray} {e : Nat} {keys : List ByteArray} {kl lev : Int} {p : Nat} {lm : Bool} {r : Option Nat} (h : SR s e keys kl lev p lm r) : ∀ q, r = some q → p ≤ q := by
  induction h with
  | nil => intro q hq; exact Nat.le_of_eq (Option.some.inj hq)
  | fin => intro q hq; cases hq
  | skip hp hc h ih => intro q hq; have := ih q hq; omega
  | str h1 hc h ih => intro q hq; have := ih q hq; have := h1.pq; have := h1.qt; omega
  | keyEnd h1 hc hn hj hk hkl hl => intro q hq; have := Option.some.inj hq; have := h1.pq; have := h1.qt; omega
  | keyUp h1 hc hn hj hk hkl hl h ih => intro q hq; have := ih q hq; have := h1.pq; have := h1.qt; omega
  | keyNe h1 hc hn hj hk h ih => intro q hq; have := ih q hq; have := h1.pq; have := h1.qt; omega
  | opn hp hc h ih => intro q hq; have := ih q hq; omega
  | past hp hc hb pq qe h ih => intro q hq; have := ih q hq; omega
  | cls hp hc h ih => intro q hq; have := ih q hq; omega
  | arr hp hc hk hb pq qe h ih => intro q hq; have := ih q hq; omega
  | idx hp hc hj hk ha hl hx h _ ih =>
    intro q hq
    have := ih q hq
    have := (ha.bounds _ (List.mem_of_getElem? hx)).1
    simp only at this
    omega
theorem SR.le {s : ByteArray} {e : Nat} {keys : List ByteArray} {kl lev : Int} {p : Nat} {lm : Bool} {r : Option Nat} (h : SR s e keys kl lev p lm r) : ∀ q, r = some q → p ≤ e → q ≤ e := by
  induction h with
  | nil => intro q hq hp; rw [← Option.some.inj hq]; exact hp
  | fin => intro q hq; cases hq
  | skip hp hc h ih => intro q hq _; exact ih q hq (by omega)
  | str h1 hc h ih => intro q hq _; exact ih q hq (by have := h1.te; omega)
  | keyEnd h1 hc hn hj hk hkl hl => intro q hq _; have := Option.some.inj hq; have := h1.te; omega
  | keyUp h1 hc hn hj hk hkl hl h ih => intro q hq _; exact ih q hq (by have := h1.te; omega)
  | keyNe h1 hc hn hj hk h ih => intro q hq _; exact ih q hq (by have := h1.te; omega)
  | opn hp hc h ih => intro q hq _; exact ih q hq (by omega)
  | past hp hc hb pq qe h ih => intro q hq _; exact ih q hq qe
  | cls hp hc h ih => intro q hq _; exact ih q hq (by omega)
  | arr hp hc hk hb pq qe h ih => intro q hq _; exact ih q hq qe
  | idx hp hc hj hk ha hl hx h _ ih =>
    intro q hq _
    have h1 := ha.bounds _ (List.mem_of_getElem? hx)
    simp only at h1
    have := ih q hq (by omega)
    omega
theorem SR.at_end {s : ByteArray} {e : Nat} {keys : List ByteArray} {kl lev : Int} {p : Nat} {lm : Bool} {r : Option Nat} (h : SR s e keys kl lev p lm r) (hp : p = e) (hk : keys ≠ []) : r = none := by
  cases h with
  | nil => exact absurd rfl hk
  | fin => rfl
  | skip h1 => omega
  | str h1 => have := h1.pq; have := h1.qt; have := h1.te; omega
  | keyEnd h1 => have := h1.pq; have := h1.qt; have := h1.te; omega
  | keyUp h1 => have := h1.pq; have := h1.qt; have := h1.te; omega
  | keyNe h1 => have := h1.pq; have := h1.qt; have := h1.te; omega
  | opn h1 => omega
  | past h1 => omega
  | cls h1 => omega
  | arr h1 => omega
  | idx h1 => omega
theorem slice_no_nil (A : Addr) (m cx : Nat) (W : World) : (binOp .eql 51 (.slice (some A) m cx) (.slice none 0 0)).run Tryz.prog W = .ok (.bool false) W := by
  have ht := Tryz.underlying51
  simp [binOp, go_sem, run_equal_slice_nil _ _ _ _ _ _ ht, Result.andThen]
/-- Where the call back has got to. -/
structure Sx (b a n c : Nat) (s : ByteArray) (kb ko : Nat) (keys : List ByteArray) (Q p ai : Nat) (els : List (Nat × Nat × Int)) (j : Nat) (w0 W : World) : Prop where
  sk : Sk b a n c s kb ko keys w0 W
  cc : Cc (Q + 1) Q (Q + 1 + 1) (Q + 1 + 1 + 1) (w0.heap.size + 1) (Q + 1 + 1 + 1 + 1) b a n c p ai els j W
  q : w0.heap.size + 3 ≤ Q
  lt : Q + 1 + 1 + 1 + 1 < W.heap.size
theorem Sx.more {b a n c : Nat} {s : ByteArray} {kb ko : Nat} {keys : List ByteArray} {Q p ai : Nat} {els : List (Nat × Nat × Int)} {j : Nat} {w0 W W' : World} (h : Sx b a n c s kb ko keys Q p ai els j w0 W) (hb : Below W.heap.size W W') : Sx b a n c s kb ko keys Q p ai els j w0 W' := ⟨h.sk.more hb, h.cc.more hb, h.q, Nat.lt_of_lt_of_le h.lt hb.size⟩
theorem Sx.drew {b a n c : Nat} {s : ByteArray} {kb ko : Nat} {keys : List ByteArray} {Q p ai : Nat} {els : List (Nat × Nat × Int)} {j : Nat} {w0 W : World} (h : Sx b a n c s kb ko keys Q p ai els j w0 W) : Sx b a n c s kb ko keys Q p ai els j w0 W.drew := h.more (Below.refl _ _).drew
theorem Sx.cells {b a n c : Nat} {s : ByteArray} {kb ko : Nat} {keys : List ByteArray} {Q p ai : Nat} {els : List (Nat × Nat × Int)} {j : Nat} {w0 W : World} (h : Sx b a n c s kb ko keys Q p ai els j w0 W) : W.cell? ⟨w0.heap.size, 0, none⟩ = some (.bool false) ∧ W.cell? ⟨w0.heap.size, 1, none⟩ = some (.bool false) ∧ W.cell? ⟨w0.heap.size, 2, none⟩ = some (.int .i64 0) ∧ W.cell? ⟨w0.heap.size + 1, 0, none⟩ = some (.slice (some ⟨b, a, none⟩) n c) ∧ Aside0 (Sx b a n c s kb ko keys Q p ai els j w0 W) := ⟨h.sk.cfg0, h.sk.cfg1, h.sk.cfg2, h.sk.data.cell, ⟨h⟩⟩
theorem below_bytes (w : World) (e : TypeId) (t : ByteArray) : Below w.heap.size w (Lib.bytesWorld w e t) := by
  refine ⟨rfl, rfl, rfl, by rw [Lib.bytesWorld_size]; omega, fun k hk => Lib.bytesWorld_at_old w e t k hk⟩
/-- The five blocks of the call back, new. -/
theorem Sx.start {b a n c : Nat} {s : ByteArray} {kb ko : Nat} {keys : List ByteArray} {w0 W : World} (h : Sk b a n c s kb ko keys w0 W) (p i2 ai : Nat) (hp : p - a = i2) (els : List (Nat × Nat × Int)) (t1 t2 t3 t4 t5 : TypeId) :
    Sx b a n c s kb ko keys W.heap.size p ai els 0 w0 (((((W.alloc (.cells #[.int .i64 (ai : Int)] t1)).alloc (.cells #[.int .i64 0] t2)).alloc (.cells #[.slice none 0 0] t3)).alloc (.cells #[.int .i64 0] t4)).alloc (.cells #[.int .i64 (i2 : Int)] t5)) := by
  have hlt := h.lt
  have k1 := Bx.new W (.int .i64 (ai : Int)) t1
  have h1 := below_alloc_ W (.cells #[.int .i64 (ai : Int)] t1)
  have e1 : (W.alloc (.cells #[.int .i64 (ai : Int)] t1)).heap.size = W.heap.size + 1 := Go.Deep.nblk_alloc _ _
  generalize W.alloc (.cells #[.int .i64 (ai : Int)] t1) = W1 at *
  have k2 := Bx.new W1 (.int .i64 0) t2
  have h2 := below_alloc_ W1 (.cells #[.int .i64 0] t2)
  have e2 : (W1.alloc (.cells #[.int .i64 0] t2)).heap.size = W1.heap.size + 1 := Go.Deep.nblk_alloc _ _
  generalize W1.alloc (.cells #[.int .i64 0] t2) = W2 at *
  have k3 := Bx.new W2 (.slice none 0 0) t3
  have h3 := below_alloc_ W2 (.cells #[.slice none 0 0] t3)
  have e3 : (W2.alloc (.cells #[.slice none 0 0] t3)).heap.size = W2.heap.size + 1 := Go.Deep.nblk_alloc _ _
  generalize W2.alloc (.cells #[.slice none 0 0] t3) = W3 at *
  have k4 := Bx.new W3 (.int .i64 0) t4
  have h4 := below_alloc_ W3 (.cells #[.int .i64 0] t4)
  have e4 : (W3.alloc (.cells #[.int .i64 0] t4)).heap.size = W3.heap.size + 1 := Go.Deep.nblk_alloc _ _
  generalize W3.alloc (.cells #[.int .i64 0] t4) = W4 at *
  have k5 := Bx.new W4 (.int .i64 (i2 : Int)) t5
  have h5 := below_alloc_ W4 (.cells #[.int .i64 (i2 : Int)] t5)
  have e5 : (W4.alloc (.cells #[.int .i64 (i2 : Int)] t5)).heap.size = W4.heap.size + 1 := Go.Deep.nblk_alloc _ _
  generalize W4.alloc (.cells #[.int .i64 (i2 : Int)] t5) = W5 at *
  rw [e1] at k2 e2
  rw [e2] at k3 e3
  rw [e3] at k4 e4
  rw [e4] at k5 e5
  have hs := ((((h.more h1).more h2).more h3).more h4).more h5
  refine ⟨hs, ⟨((k2.more h3).more h4).more h5, (((k1.more h2).more h3).more h4).more h5, hs.data, by rw [hp]; exact k5, fun _ => ⟨(k3.more h4).more h5, k4.more h5⟩, fun hh => absurd hh (Nat.not_lt_zero _)⟩, by omega, by omega⟩
/-- With what the call back has found. -/
structure Sv (b a n c : Nat) (s : ByteArray) (kb ko : Nat) (keys : List ByteArray) (q1 q2 : Nat) (u v : Value) (w0 W : World) : Prop where
  sk : Sk b a n c s kb ko keys w0 W
  b1 : Bx q1 u W
  b2 : Bx q2 v W
theorem Sv.more {b a n c : Nat} {s : ByteArray} {kb ko : Nat} {keys : List ByteArray} {q1 q2 : Nat} {u v : Value} {w0 W W' : World} (h : Sv b a n c s kb ko keys q1 q2 u v w0 W) (hb : Below W.heap.size W W') : Sv b a n c s kb ko keys q1 q2 u v w0 W' := ⟨h.sk.more hb, h.b1.more hb, h.b2.more hb⟩
theorem Sv.drew {b a n c : Nat} {s : ByteArray} {kb ko : Nat} {keys : List ByteArray} {q1 q2 : Nat} {u v : Value} {w0 W : World} (h : Sv b a n c s kb ko keys q1 q2 u v w0 W) : Sv b a n c s kb ko keys q1 q2 u v w0 W.drew := h.more (Below.refl _ _).drew
theorem Sv.cells {b a n c : Nat} {s : ByteArray} {kb ko : Nat} {keys : List ByteArray} {q1 q2 : Nat} {u v : Value} {w0 W : World} (h : Sv b a n c s kb ko keys q1 q2 u v w0 W) : W.cell? ⟨w0.heap.size, 0, none⟩ = some (.bool false) ∧ W.cell? ⟨w0.heap.size, 1, none⟩ = some (.bool false) ∧ W.cell? ⟨w0.heap.size, 2, none⟩ = some (.int .i64 0) ∧ W.cell? ⟨w0.heap.size + 1, 0, none⟩ = some (.slice (some ⟨b, a, none⟩) n c) ∧ W.cell? ⟨q1, 0, none⟩ = some u ∧ Aside0 (Sv b a n c s kb ko keys q1 q2 u v w0 W) := ⟨h.sk.cfg0, h.sk.cfg1, h.sk.cfg2, h.sk.data.cell, h.b1.cell, ⟨h⟩⟩
/-- arrayEachConfig where the search calls it. -/
theorem Sx.each {b a n c : Nat} {s : ByteArray} {kb ko : Nat} {keys : List ByteArray} {Q p ai : Nat} {els : List (Nat × Nat × Int)} {w0 W : World} (h : Sx b a n c s kb ko keys Q p ai els 0 w0 W) {f : Nat} (ha : AE s (a + n) p els f) (hp : a ≤ p) (he : a + n ≤ s.size) (hz : s.size ≤ 2147483647) (hl : els.length ≤ 2147483647) (hn : n ≤ c) :
    Calls Tryz.prog 33 #[cfgV, .slice (some ⟨b, p, none⟩) (a + n - p) (c - (p - a)), .func (.func 69) #[] #[.pointer (some ⟨Q + 1, 0, none⟩), .pointer (some ⟨Q, 0, none⟩), .pointer (some ⟨Q + 1 + 1, 0, none⟩), .pointer (some ⟨Q + 1 + 1 + 1, 0, none⟩), .pointer (some ⟨w0.heap.size + 1, 0, none⟩), .pointer (some ⟨Q + 1 + 1 + 1 + 1, 0, none⟩)], .slice none 0 0] W
      fun e' W' => (∃ i, e' = .returned (.tuple #[.int .i64 i, .nilIface])) ∧ Sx b a n c s kb ko keys Q p ai els els.length w0 W' := by
  have hq := h.q
  have hlt := h.lt
  have hsk := h.sk.lt
  have hW : ∀ k, Wr (Q + 1) (Q + 1 + 1) (Q + 1 + 1 + 1) k → Q ≤ k ∧ k < W.heap.size := fun k hk => by unfold Wr at hk; omega
  have hbl : ∀ W', Bes (Wr (Q + 1) (Q + 1 + 1) (Q + 1 + 1 + 1)) W W' → Below w0.heap.size w0 W' := fun W' hB => h.sk.below.trans (hB.below (by omega) (fun k hk => by have := hW k hk; omega))
  refine (each_calls ha 69 _ b (c - (p - a)) W (Wr (Q + 1) (Q + 1 + 1) (Q + 1 + 1 + 1)) (Cc (Q + 1) Q (Q + 1 + 1) (Q + 1 + 1 + 1) (w0.heap.size + 1) (Q + 1 + 1 + 1 + 1) b a n c p ai els) he hz (by have := ha.pe; omega)
    (fun args W => enters_ Tryz.func69 (by kernel_rfl) rfl args W) (fun hk => by have := hW _ hk; omega) (fun W' hB => ⟨h.sk.glob.below (hbl W' hB), h.sk.text.more (hbl W' hB)⟩) (fun j W W' hI hB => hI.more hB) h.cc (fun j hj W' hI hB => ?_)).mono ?_
  · exact clos_calls _ _ _ _ _ _ b a n c p ai els ⟨by omega⟩ j hj W' hI hp (fun q hq => ha.bounds q hq) hn (by omega) hl
  · rintro e' W' ⟨rfl, hI, hB⟩
    refine ⟨⟨_, rfl⟩, h.sk.bes (fun k hk => by have := hW k hk; omega) hB ?_, hI, hq, Nat.lt_of_lt_of_le hlt hB.size⟩
    obtain ⟨out, h1, ⟨h2⟩⟩ := h.sk.buf
    exact ⟨out, h1, ⟨(hB.block _ (by omega) (fun hk => by have := hW _ hk; omega)).trans h2⟩⟩
end Go.Proofs.YtpdohioobbfncaaGreatDoor.PFnJpWildStop