/- laws.FnJpWildStop, told by hand: ArrayEachWildcard whose call back stops; no condition beside those that each theorem states. -/
import Derived.Test.YtpdohioobbfncaaGreatDoorPFnJpWildStopx
import Derived.Test.YtpdohioobbfncaaGreatDoorWordsFnJpWildStop
import Derived.Test.YtpdohioobbfncaaGreatDoorHJWFnJpWildStop
import Derived.Test.YtpdohioobbfncaaGreatDoorFKFnJpWildStop
import Derived.Deep.RegionHeld3
namespace Go.Proofs.YtpdohioobbfncaaGreatDoor.PFnJpWildStop
open Go.RowKit Go.Proofs.YtpdohioobbfncaaGreatDoor.JFnJpWildStop Go.Proofs.YtpdohioobbfncaaGreatDoorW.PrintWords Go.Proofs.YtpdohioobbfncaaGreatDoorW.PrintLast Go.Proofs.YtpdohioobbfncaaGreatDoorW.PrintMore
set_option linter.unusedVariables false
set_option linter.unusedSimpArgs false
theorem fits_val (l : List ByteArray) (hl : (l.length : Int) ≤ 9223372036854775807) : ∃ t, Ev (fun k => zF_.f k l) t ∧ (t = true → l.length ≤ 2147483647 ∧ ∀ x ∈ l, x.size ≤ 2147483647) := by
  have go : ∀ (d i : Nat), i ≤ l.length → l.length - i ≤ d → ∃ t, Ev (fun k => zF_.l0 k l (l.length : Int) (i : Int)) t ∧ (t = true → ∀ x ∈ l.drop i, x.size ≤ 2147483647) := by
    intro d
    have stop : ∃ t, Ev (fun k => zF_.l0 k l (l.length : Int) (l.length : Int)) t ∧ (t = true → ∀ x ∈ l.drop l.length, x.size ≤ 2147483647) :=
      ⟨_, Ev.step (fun k => by rw [zF_.l0]) (Ev.neg (by omega) (Ev.now _)), fun _ x hx => by rw [List.drop_length] at hx; cases hx⟩
    induction d with
    | zero =>
      intro i h1 hd
      obtain rfl : i = l.length := by omega
      exact stop
    | succ d ih =>
      intro i h1 hd
      by_cases hi : i < l.length
      · by_cases c : ((rdOf ByteArray.empty l (i : Int)).size : Int) > 2147483647
        · exact ⟨_, Ev.step (fun k => by rw [zF_.l0]) (Ev.pos (by omega) (Ev.pos (by omega) (Ev.pos (by omega) (Ev.pos c (Ev.now _))))), fun h => by cases h⟩
        · obtain ⟨t, e, h⟩ := ih (i + 1) (by omega) (by omega)
          refine ⟨t, Ev.step (fun k => by rw [zF_.l0]) (Ev.pos (by omega) (Ev.pos (by omega) (Ev.pos (by omega) (Ev.neg c ?_)))), fun ht x hx => ?_⟩
          · rw [w64 (by omega) (by omega)]
            exact e
          · rw [List.drop_eq_getElem_cons hi] at hx
            rcases List.mem_cons.1 hx with rfl | hx
            · unfold rdOf at c
              rw [Int.toNat_natCast, List.getD_eq_getElem?_getD, List.getElem?_eq_getElem hi] at c
              simp at c
              omega
            · exact h ht x hx
      · obtain rfl : i = l.length := by omega
        exact stop
  unfold zF_.f
  by_cases c : (l.length : Int) > 2147483647
  · exact ⟨_, Ev.pos c (Ev.now _), fun h => by cases h⟩
  · obtain ⟨t, e, h⟩ := go l.length 0 (by omega) (by omega)
    exact ⟨t, Ev.neg c e, fun ht => ⟨by omega, fun x hx => h ht x (by rwa [List.drop_zero])⟩⟩
theorem put5 {W : World} {G : Nat} {t : TypeId} {b0 b1 b2 b3 b4 a0 a1 a2 a3 a4 : Value} (h : W.heap[G]? = some (.cells #[b0, b1, b2, b3, b4] t (0, 0))) : (((((W.setCell ⟨G, 0, none⟩ a0).setCell ⟨G, 1, none⟩ a1).setCell ⟨G, 2, none⟩ a2).setCell ⟨G, 3, none⟩ a3).setCell ⟨G, 4, none⟩ a4).heap[G]? = some (.cells #[a0, a1, a2, a3, a4] t (0, 0)) := blk_put (blk_put (blk_put (blk_put (blk_put h 0 a0 rfl) 1 a1 rfl) 2 a2 rfl) 3 a3 rfl) 4 a4 rfl
theorem below5 {w W : World} {G : Nat} {a0 a1 a2 a3 a4 : Value} (h : Below w.heap.size w W) (hG : w.heap.size ≤ G) : Below w.heap.size w (((((W.setCell ⟨G, 0, none⟩ a0).setCell ⟨G, 1, none⟩ a1).setCell ⟨G, 2, none⟩ a2).setCell ⟨G, 3, none⟩ a3).setCell ⟨G, 4, none⟩ a4) := below_setc (below_setc (below_setc (below_setc (below_setc h hG) hG) hG) hG) hG
theorem str_win (s : ByteArray) (a e : Nat) (he : e ≤ s.size) : strOfNums (win s a e) = s.extract a e := by
  apply ByteArray.ext
  apply Array.ext'
  rw [strOfNums_data, ByteArray.data_extract, Array.toList_extract]
  apply List.ext_getElem?
  intro i
  have hsz : s.data.toList.length = s.size := rfl
  by_cases h : i < e - a
  · have h1 : a + i < s.size := by omega
    simp only [win, List.map_map, List.getElem?_map, List.getElem?_range h, Option.map_some, Function.comp]
    rw [List.extract_eq_take_drop, List.getElem?_take_of_lt h, List.getElem?_drop, List.getElem?_eq_getElem (by rw [hsz]; exact h1)]
    congr 1
    unfold bt
    rw [dif_pos (by omega)]
    simp only [Int.toNat_natCast]
    show UInt8.ofNat (s[a + i]'h1).toNat = _
    simp
    rfl
  · rw [List.getElem?_eq_none (by rw [List.length_map, win_len]; omega), List.getElem?_eq_none (by rw [List.extract_eq_take_drop, List.length_take]; omega)]
theorem EL.mem {s : ByteArray} {e o f : Nat} {r : List (Nat × Nat × Int)} (h : EL s e o r f) : ∀ q ∈ r, ∃ a, GV s e a q.1 q.2.1 q.2.2 := by
  induction h with
  | last hg nt yz ze hz => intro q hq; rw [List.mem_singleton] at hq; subst hq; exact ⟨_, hg⟩
  | more hg nt yz ze hz t ih =>
    intro q hq
    rcases List.mem_cons.1 hq with rfl | hq
    · exact ⟨_, hg⟩
    · exact ih q hq
theorem key_star {key : ByteArray} (h : key.toList = [91, 42, 93]) : key = starB := by
  rw [ByteArray.toList_eq] at h
  apply ByteArray.ext
  apply Array.ext'
  exact h
/-- The last key of a path is no star. -/
theorem path_last {s : ByteArray} {q t : Pl} {ks : List ByteArray} (h : Path s q ks t) : ∀ (h : 0 < ks.length), (ks.getD (ks.length - 1) ByteArray.empty).toList ≠ [91, 42, 93] := by
  induction h with
  | here => intro h; exact absurd h (by simp)
  | @step q q2 t k1 r1 hop g2 p nb ih =>
    intro _
    cases r1 with
    | nil =>
      show k1.toList ≠ [91, 42, 93]
      intro hk
      obtain rfl := key_star hk
      cases hop with
      | mem t hl ht yes no =>
        have h1 := nb rfl
        unfold jI_.f at h1
        rw [ByteArray.toList_eq, if_neg (by decide), if_pos (by decide)] at h1
        exact absurd h1 (by decide)
      | el t ht ix =>
        have h1 := ix.at_
        rw [show Lib.atoi (starB.extract 1 (starB.size - 1)).data.toList = none by decide] at h1
        cases h1
    | cons k2 r2 =>
      have h1 := ih (by simp)
      simpa using h1
/-- What the walk wants to know of impl.JqWildStop at one of the two ways. -/
theorem wild_found {a0 : ByteArray} {l1 row : List ByteArray} {b e : Int} {ns : List Sp} {ks : List Pl} (hs : (a0.size : Int) ≤ 65536) (hln : l1.length ≤ 2147483647) (hks : ∀ x ∈ l1, x.size ≤ 2147483647) {kd0 b0 e0 : Int} {ns0 : List Sp} {ks0 : List Pl} (hj : JT a0 kd0 b0 e0 ns0 ks0) (hp : Path a0 ⟨kd0, b0, e0, ns0, ks0⟩ l1 ⟨5, b, e, ns, ks⟩) (hg : GoodP a0 ⟨5, b, e, ns, ks⟩) (hrow : row = l1 ∨ row = l1 ++ [starB]) (stop : Nat) (tx : Nat → ByteArray) (kd : Nat → Int)
    (htx : ∀ j (hj : j < ks.length), kd j = kk ks[j].f0 ∧ tx j = (if ks[j].f0 = 4 then a0.extract (ks[j].f1.toNat + 1) (ks[j].f2.toNat - 1) else a0.extract ks[j].f1.toNat ks[j].f2.toNat)) (A1 : Option Addr) (c1 : Nat) (hc1 : row.length ≤ c1) (W : World) (hr : Kd.C Kd.string W A1 row.length row) (hG : Glob W) :
    Calls Tryz.prog 8 #[.string a0, .slice A1 row.length c1, .int .i64 (stop : Int)] W fun e' w' => (∃ v, e' = .returned (.tuple #[v, .int .i64 ((if stop < ks.length then stop + 1 else ks.length : Nat) : Int), .bool (decide (ks.length ≤ stop))]) ∧ w'.ownsRow W.heap.size 36 3 v (if stop < ks.length then stop + 1 else ks.length) (rowC tx kd (if stop < ks.length then stop + 1 else ks.length))) ∧ Below W.heap.size W w' := by
  have h64 : a0.size ≤ 2147483647 := by omega
  obtain ⟨q, hsr, hq0, hgv⟩ := get_path h64 hj hp hg
  have h1 : 0 ≤ b := hg.lo
  have h2 : b < e := hg.lt
  have h3 : e ≤ a0.size := hg.hi
  have hval : JV a0 5 b e ns ks := hg.val
  obtain ⟨kb, ko, hkA, hK⟩ := ky_of hr
  have hf0 := hj.front.le
  have hlt0 := hj.lt
  have hhi0 := hj.hi
  have hAq : Aq a0 l1 b0.toNat q b.toNat := by
    refine ⟨hsr, fun h => ⟨hq0 h, ?_⟩, ?_, by omega, hgv.nt, hgv.ax, by omega⟩
    · subst h
      cases hp
      rfl
    · refine nt_of h64 (a := 0) (y := b0.toNat) ?_ (by omega) (Nat.le_refl _)
      rw [show ((b0.toNat : Nat) : Int) = b0 by omega]
      exact hj.front
  have hae := ae_of h64 (Nat.le_refl _) hval rfl h1 h2 (by omega)
  have hlen : (ks.map elN).length = ks.length := List.length_map _
  have hkl := hg.len
  have hels : ∀ j (hj : j < (ks.map elN).length), (ks.map elN)[j].2.2 = kd j ∧ (ks.map elN)[j].1 < (ks.map elN)[j].2.1 ∧ (ks.map elN)[j].2.1 ≤ a0.size ∧ (kd j = 1 → (ks.map elN)[j].1 + 2 ≤ (ks.map elN)[j].2.1) ∧ tx j = strOfNums (if kd j = 1 then win a0 ((ks.map elN)[j].1 + 1) ((ks.map elN)[j].2.1 - 1) else win a0 (ks.map elN)[j].1 (ks.map elN)[j].2.1) := by
    intro j hj
    have hj2 : j < ks.length := by rw [← hlen]; exact hj
    obtain ⟨e1, e2⟩ := htx j hj2
    have hgv : ∃ a, GV a0 a0.size a (ks.map elN)[j].1 (ks.map elN)[j].2.1 (ks.map elN)[j].2.2 := by
      obtain ⟨_, _, _, _, _, _, _, hel⟩ := hae
      rcases hel with ⟨_, h0, _⟩ | ⟨_, hel⟩
      · rw [h0] at hj
        exact absurd hj (by simp)
      · exact hel.mem _ (List.getElem_mem hj)
    obtain ⟨a, hgv⟩ := hgv
    have hget : (ks.map elN)[j] = elN ks[j] := List.getElem_map _
    rw [hget] at hgv ⊢
    unfold elN at hgv ⊢
    dsimp only at hgv ⊢
    have hye := hgv.ye
    have hxy := hgv.xy
    have h41 : ks[j].f0 = 4 ↔ kd j = 1 := by
      rw [e1]
      unfold kk
      constructor <;> intro h <;> (repeat' split at h) <;> simp_all
    refine ⟨e1.symm, hxy, hye, fun h => ?_, ?_⟩
    · rw [← e1, h] at hgv
      exact hgv.two
    · rw [e2]
      by_cases h4 : ks[j].f0 = 4
      · rw [if_pos h4, if_pos (h41.1 h4), str_win _ _ _ (by omega)]
      · rw [if_neg h4, if_neg (fun h => h4 (h41.2 h)), str_win _ _ _ hye]
  have hrl : row.length ≤ 4294967296 := by
    rcases hrow with h | h
    · rw [h]; omega
    · rw [h, List.length_append, List.length_singleton]; omega
  have main := jqwild_calls (row := row) hAq hae stop (by omega) tx kd hels h64 hks (by
    rcases hrow with h | h
    · refine .inl ⟨h, ?_⟩
      rw [h]
      exact path_last hp
    · exact .inr h) hrl A1 c1 kb ko hc1 hkA W hK hG
  unfold Wn at main
  rw [hlen] at main
  exact main
theorem add0_ (g j : Nat) : (⟨g, 0, none⟩ : Addr).add j = ⟨g, j, none⟩ := by
  unfold Addr.add
  split <;> simp_all
theorem rowC_len (tx : Nat → ByteArray) (kd : Nat → Int) (n : Nat) : (rowC tx kd n).length = 3 * n := by
  induction n with
  | zero => rfl
  | succ n ih => rw [rowC_succ, List.length_append, ih]; simp; omega
theorem rowC_get (tx : Nat → ByteArray) (kd : Nat → Int) (n k : Nat) (h : k < n) : (rowC tx kd n)[3 * k]? = some (.int .i64 (k : Int)) ∧ (rowC tx kd n)[3 * k + 1]? = some (.string (tx k)) ∧ (rowC tx kd n)[3 * k + 2]? = some (.int .i64 (kd k)) := by
  induction n with
  | zero => exact absurd h (Nat.not_lt_zero _)
  | succ n ih =>
    rw [rowC_succ]
    have hl := rowC_len tx kd n
    by_cases hk : k < n
    · obtain ⟨h1, h2, h3⟩ := ih hk
      refine ⟨?_, ?_, ?_⟩ <;> (rw [List.getElem?_append_left (by omega)]; assumption)
    · obtain rfl : k = n := by omega
      refine ⟨?_, ?_, ?_⟩ <;> (rw [List.getElem?_append_right (by omega), hl])
      · rw [Nat.sub_self]; rfl
      · rw [show 3 * k + 1 - 3 * k = 1 by omega]; rfl
      · rw [show 3 * k + 2 - 3 * k = 2 by omega]; rfl
/-- What is kept from the place that was found on. -/
structure Sr (w : World) (gb : Nat) (A : Option Addr) (c L : Nat) (ks : List Pl) (W : World) : Prop where
  bel : Below w.heap.size w W
  box : W.cell? ⟨gb, 4, none⟩ = some (.slice A L c)
  kids : Kd.C k27 W A L ks
theorem Sr.more {w : World} {gb : Nat} {A : Option Addr} {c L : Nat} {ks : List Pl} {W W' : World} (h : Sr w gb A c L ks W) (hb : Below W.heap.size W W') : Sr w gb A c L ks W' := ⟨below_step h.bel hb, keep_ h.box hb, Kd.C_below h.kids hb⟩
theorem Sr.drew {w : World} {gb : Nat} {A : Option Addr} {c L : Nat} {ks : List Pl} {W : World} (h : Sr w gb A c L ks W) : Sr w gb A c L ks W.drew := h.more (Below.refl _ _).drew
/-- With the two ways. -/
structure Sw (w : World) (gb : Nat) (A : Option Addr) (c L : Nat) (ks : List Pl) (gw N : Nat) (l1 : List ByteArray) (A1 : Option Addr) (c1 : Nat) (A2 : Option Addr) (c2 : Nat) (W : World) : Prop where
  sr : Sr w gb A c L ks W
  y0 : W.cell? ⟨gw, 0, none⟩ = some (.slice A1 N c1)
  y1 : W.cell? ⟨gw, 1, none⟩ = some (.slice A2 (N + 1) c2)
  r1 : Kd.C Kd.string W A1 N l1
  r2 : Kd.C Kd.string W A2 (N + 1) (l1 ++ [starB])
  n1 : N ≤ c1
  n2 : N + 1 ≤ c2
theorem Sw.more {w : World} {gb : Nat} {A : Option Addr} {c L : Nat} {ks : List Pl} {gw N : Nat} {l1 : List ByteArray} {A1 : Option Addr} {c1 : Nat} {A2 : Option Addr} {c2 : Nat} {W W' : World} (h : Sw w gb A c L ks gw N l1 A1 c1 A2 c2 W) (hb : Below W.heap.size W W') : Sw w gb A c L ks gw N l1 A1 c1 A2 c2 W' := ⟨h.sr.more hb, keep_ h.y0 hb, keep_ h.y1 hb, Kd.C_below h.r1 hb, Kd.C_below h.r2 hb, h.n1, h.n2⟩
theorem jv_str2 {s : ByteArray} {kd i j : Int} {ns : List Sp} {ks : List Pl} (h : JV s kd i j ns ks) (hk : kd = 4) : i + 2 ≤ j := by
  cases h with
  | str h t => have := t.lt; omega
  | null => omega
  | fals => omega
  | tru => omega
  | num => omega
  | arr0 => omega
  | arr => omega
  | obj0 => omega
  | obj => omega
theorem raw_of {a0 : ByteArray} {y0 y1 y2 : Int} {y3 : List Sp} {y4 : List Pl} (hsz : (a0.size : Int) ≤ 65536) (h : GoodP a0 ⟨y0, y1, y2, y3, y4⟩) : spec_Raw.f a0 y0 y1 y2 y3 y4 = some (if y0 = 4 then a0.extract (y1.toNat + 1) (y2.toNat - 1) else a0.extract y1.toNat y2.toNat) := by
  have h1 : 0 ≤ y1 := h.lo
  have h2 : y1 < y2 := h.lt
  have h3 : y2 ≤ a0.size := h.hi
  unfold spec_Raw.f
  by_cases c : y0 = 4
  · have h4 := jv_str2 (show JV a0 y0 y1 y2 y3 y4 from h.val) c
    rw [if_pos c, if_pos c, w64 (by omega) (by omega), w64 (by omega) (by omega), if_pos (by omega), if_pos (by omega), if_pos (by omega), show (y1 + 1).toNat = y1.toNat + 1 by omega, show (y2 - 1).toNat = y2.toNat - 1 by omega]
  · rw [if_neg c, if_neg c, if_pos h1, if_pos (by omega), if_pos h3]
theorem jv_kind {s : ByteArray} {kd i j : Int} {ns : List Sp} {ks : List Pl} (h : JV s kd i j ns ks) : 0 ≤ kd ∧ kd ≤ 6 := by cases h <;> (constructor <;> omega)
theorem kind_of (y0 : Int) (h : 0 ≤ y0 ∧ y0 ≤ 6) : jK_.f y0 = some (kk y0) := by
  obtain ⟨h1, h2⟩ := h
  unfold jK_.f kk
  obtain h | h | h | h | h | h | h : y0 = 0 ∨ y0 = 1 ∨ y0 = 2 ∨ y0 = 3 ∨ y0 = 4 ∨ y0 = 5 ∨ y0 = 6 := by omega
  all_goals (subst h; rfl)
/-- With what was called back with. -/
structure Sc (w : World) (gb : Nat) (A : Option Addr) (c L : Nat) (ks : List Pl) (gw N : Nat) (l1 : List ByteArray) (A1 : Option Addr) (c1 : Nat) (A2 : Option Addr) (c2 : Nat) (B : Nat) (Ac : Option Addr) (wn cc : Nat) (tx : Nat → ByteArray) (kq : Nat → Int) (W : World) : Prop where
  sw : Sw w gb A c L ks gw N l1 A1 c1 A2 c2 W
  own : W.ownsRow B 36 3 (.slice Ac wn cc) wn (rowC tx kq wn)
theorem Sc.more {w : World} {gb : Nat} {A : Option Addr} {c L : Nat} {ks : List Pl} {gw N : Nat} {l1 : List ByteArray} {A1 : Option Addr} {c1 : Nat} {A2 : Option Addr} {c2 : Nat} {B : Nat} {Ac : Option Addr} {wn cc : Nat} {tx : Nat → ByteArray} {kq : Nat → Int} {W W' : World} (h : Sc w gb A c L ks gw N l1 A1 c1 A2 c2 B Ac wn cc tx kq W) (hb : Below W.heap.size W W') : Sc w gb A c L ks gw N l1 A1 c1 A2 c2 B Ac wn cc tx kq W' := ⟨h.sw.more hb, pw_own_below h.own hb⟩
set_option maxHeartbeats 8000000 in
set_option maxRecDepth 100000 in
theorem law_calls (a0 : ByteArray) (A1 : Option Addr) (c1 : Nat) (l1 : List ByteArray) (a2 : Int) (h2a : -9223372036854775808 ≤ a2) (h2b : a2 ≤ 9223372036854775807) (w : World) (hr1 : Kd.C Kd.string w A1 l1.length l1) (hc1 : l1.length ≤ c1) (hl : (l1.length : Int) ≤ 9223372036854775807) (hG : Glob w) :
    Calls Tryz.prog 3 #[.string a0, .slice A1 l1.length c1, .int .i64 a2] w fun e w' => e = .returned (.bool true) ∧ Below w.heap.size w w' := by
  by_cases c : (a0.size : Int) > 2147483647
  · have d1 : decide ((a0.size : Int) > 2147483647) = true := decide_eq_true c
    clear c hr1 hG hl
    go_enter Tryz.func3, Tryz.ntmps3
    go_wp2
    go_ret
    exact ⟨rfl, Below.refl _ _⟩
  have d1 : decide ((a0.size : Int) > 2147483647) = false := decide_eq_false c
  obtain ⟨t, ⟨kf, et⟩, ht⟩ := fits_val l1 hl
  have kz := fun W (h : Below w.heap.size w W) => zF_.calls kf A1 c1 l1 t W (Kd.C_below hr1 h) hc1 (et kf (Nat.le_refl _))
  cases t with
  | false =>
    have HK := Aside0.mk kz
    obtain ⟨N, hN⟩ : ∃ N, l1.length = N := ⟨_, rfl⟩
    rw [hN] at HK ⊢
    clear c hr1 hG hl kz ht et hN hc1
    go_enter Tryz.func3, Tryz.ntmps3
    go_wp2_with (go_at_call 5; (with_reducible refine (HK.out _ (Below.refl _ _)).mono ?_); rintro e w1 ⟨rfl, HD⟩; have H1 := Aside0.mk HD.below; clear HD)
    go_ret
    exact ⟨rfl, H1.out⟩
  | true =>
    obtain ⟨hln, hsz⟩ := ht rfl
    obtain ⟨kd, b, e, ns, ks, ok, ⟨kj, ef⟩, hf⟩ := found_all a0 l1 hl (fun x h => by have := hsz x h; omega)
    have kj1 := fun W (h : Below w.heap.size w W) => jF_.calls kj a0 A1 c1 l1 kd b e ns ks ok W (Kd.C_below hr1 h) hc1 (ef kj (Nat.le_refl _))
    by_cases hout : ok = false ∨ kd ≠ 5 ∨ a2 < 0
    · have HK := Aside0.mk kz
      have HF := Aside0.mk kj1
      obtain ⟨N, hN⟩ : ∃ N, l1.length = N := ⟨_, rfl⟩
      rw [hN] at HK HF ⊢
      have hc : (ok = false) ∨ (ok = true ∧ (kd != 5) = true) ∨ (ok = true ∧ (kd != 5) = false ∧ decide (a2 < 0) = true) := by
        cases ok with
        | false => exact .inl rfl
        | true =>
          by_cases h5 : kd = 5
          · rcases hout with h | h | h
            · cases h
            · exact absurd h5 h
            · exact .inr (.inr ⟨rfl, bne_eq_false_iff_eq.2 h5, decide_eq_true h⟩)
          · exact .inr (.inl ⟨rfl, bne_iff_ne.2 h5⟩)
      clear c hr1 hG hl kz ht et hN hc1 kj1 ef hf hln hsz hout
      rcases hc with rfl | ⟨rfl, b5⟩ | ⟨rfl, b5, b2⟩
      all_goals
        go_enter Tryz.func3, Tryz.ntmps3
        go_wp2_with (first | (go_at_call 5; (with_reducible refine (HK.out _ (Below.refl _ _)).mono ?_); rintro e w1 ⟨rfl, HD⟩; have H1 := Aside0.mk HD.below; clear HD) | (go_at_call 6; (with_reducible refine (HF.out _ H1.out).mono ?_); rintro e w2 ⟨v3, v4, rfl, ho3, ho4, hb⟩; have H2 := Aside0.mk (below_step H1.out hb); obtain ⟨Ao3, co3, rfl⟩ := Kd.V_slice ho3; obtain ⟨Ao4, co4, rfl⟩ := Kd.V_slice ho4; have HV4 := Aside0.mk (Kd.V_reads' ho4).2; clear ho3 ho4 hb) | ((with_reducible refine gate_dst (N := 7) rfl ?_); refine box_event ?hg (N := 7) ?hd (cs := #[.int .i64 0, .int .i64 0, .int .i64 0, .slice none 0 0, .slice none 0 0]) (t := 27) ?hr ?_; (case hd => rfl); (case hg => rfl); (case hr => first | (go_simp; done) | (go_simp; rfl)); intro gb hg w3 hbox hb; have H3 := Aside0.mk (below_step H2.out hb); have HX := Aside0.mk hbox; have HL := Aside0.mk (show w.heap.size ≤ gb from by rw [hg]; exact below_size H2.out); have f0 := blk_frozen hbox 0; have f1 := blk_frozen hbox 1; have f2 := blk_frozen hbox 2; have f3 := blk_frozen hbox 3; have f4 := blk_frozen hbox 4; have z0 := (blk_cell hbox 0).trans rfl; have z1 := (blk_cell hbox 1).trans rfl; have z2 := (blk_cell hbox 2).trans rfl; have z3 := (blk_cell hbox 3).trans rfl; have z4 := (blk_cell hbox 4).trans rfl; have H23 := Aside0.mk hb; have HG2 := Aside0.mk hg; clear hg hbox hb))
        go_ret
        exact ⟨by simp, below5 H3.out HL.out⟩
    · have hok : ok = true := by cases ok with | true => rfl | false => exact absurd (.inl rfl) hout
      have h5 : kd = 5 := Decidable.byContradiction fun h => hout (.inr (.inl h))
      have hst : 0 ≤ a2 := Int.not_lt.1 fun h => hout (.inr (.inr h))
      subst hok
      subst h5
      obtain ⟨stop, rfl⟩ : ∃ n : Nat, a2 = (n : Int) := ⟨a2.toNat, by omega⟩
      obtain ⟨h64, kd0, b0, e0, ns0, ks0, hj, hp, hg⟩ := hf rfl
      have hkl := hg.len
      have hge : e ≤ (a0.size : Int) := hg.hi
      have hgl : 0 ≤ b := hg.lo
      obtain ⟨tx, kq, htx⟩ : ∃ (tx : Nat → ByteArray) (kq : Nat → Int), ∀ j (hj : j < ks.length), kq j = kk ks[j].f0 ∧ tx j = (if ks[j].f0 = 4 then a0.extract (ks[j].f1.toNat + 1) (ks[j].f2.toNat - 1) else a0.extract ks[j].f1.toNat ks[j].f2.toNat) :=
        ⟨fun j => if h : j < ks.length then (if ks[j].f0 = 4 then a0.extract (ks[j].f1.toNat + 1) (ks[j].f2.toNat - 1) else a0.extract ks[j].f1.toNat ks[j].f2.toNat) else ByteArray.empty, fun j => if h : j < ks.length then kk ks[j].f0 else 0, fun j hj => ⟨dif_pos hj, dif_pos hj⟩⟩
      have KW := Aside0.mk (fun (row : List ByteArray) (hrow : row = l1 ∨ row = l1 ++ [starB]) A1 c1 hc1 W hr (hG : Glob W) => wild_found h64 hln hsz hj hp hg hrow stop tx kq htx A1 c1 hc1 W hr hG)
      have HKids := Aside0.mk (And.intro htx (fun j (hj : j < ks.length) => (show GoodP a0 ks[j] from hg.kid _ (List.getElem_mem hj))))
      have HGW := Aside0.mk (fun W (h : Below w.heap.size w W) => hG.below h)
      have HR1 := Aside0.mk (fun W (h : Below w.heap.size w W) => Kd.C_below hr1 h)
      have KM := Aside0.mk (fun W (h : Below w.heap.size w W) => MM_.calls A1 c1 l1 starB (l1 ++ [starB]) W (Kd.C_below hr1 h) hc1 (by
        unfold MM_.f
        simp only [Option.bind_some, List.nil_append, List.length_nil, Nat.zero_add]
        rw [if_pos (by omega), if_pos (by omega)]))
      have HK := Aside0.mk kz
      have HF := Aside0.mk kj1
      obtain ⟨L, hL⟩ : ∃ L, ks.length = L := ⟨_, rfl⟩
      obtain ⟨wn, hwn⟩ : ∃ n, (if stop < ks.length then stop + 1 else ks.length) = n := ⟨_, rfl⟩
      obtain ⟨bb, hb1, hb2⟩ : ∃ bb, decide (ks.length ≤ stop) = bb ∧ decide ((stop : Int) ≥ (ks.length : Int)) = bb := ⟨_, rfl, by congr 1; simp⟩
      have hwl : wn ≤ ks.length := by rw [← hwn]; split <;> omega
      have HWN := Aside0.mk hwn
      have HKL := Aside0.mk hL
      have HWL := Aside0.mk hwl
      rw [hwn, hb1] at KW
      rw [hL] at hb2
      obtain ⟨N, hN⟩ : ∃ N, l1.length = N := ⟨_, rfl⟩
      have HLN := Aside0.mk (And.intro hN hln)
      rw [hN] at HK HF KM HR1 ⊢
      have hsl : (stop : Int) < (L : Int) ∨ ¬ ((stop : Int) < (L : Int)) := Decidable.em _
      have hs1 : IntKind.i64.wrap ((stop : Int) + 1) = ((stop + 1 : Nat) : Int) ∨ L ≤ stop := by
        by_cases h : L ≤ stop
        · exact .inr h
        · exact .inl (by rw [IntKind.wrap_i64]; omega)
      have hc3 : N ≤ c1 := by omega
      have HLL := Aside0.mk (show L ≤ 65536 from by omega)
      have H64 := Aside0.mk h64
      have HL1 := Aside0.mk (show (l1 ++ [starB]).length = N + 1 from by rw [List.length_append, hN]; rfl)
      have hb4 : (!(bb == decide (L ≤ stop))) = false := by rw [← hb1, hL]; simp
      clear c hr1 hG hl kz ht et hN hc1 kj1 ef hf hln hsz hout hj hp hg h64 hkl hge hgl htx hwl h2a h2b hst
      go_enter Tryz.func3, Tryz.ntmps3
      go_upto_if 47 with (first | (go_at_call 5; (with_reducible refine (HK.out _ (Below.refl _ _)).mono ?_); rintro e w1 ⟨rfl, HD⟩; have H1 := Aside0.mk HD.below; clear HD) | (go_at_call 6; (with_reducible refine (HF.out _ H1.out).mono ?_); rintro e w2 ⟨v3, v4, rfl, ho3, ho4, hb⟩; have H2 := Aside0.mk (below_step H1.out hb); obtain ⟨Ao3, co3, rfl⟩ := Kd.V_slice ho3; obtain ⟨Ao4, co4, rfl⟩ := Kd.V_slice ho4; have HV4 := Aside0.mk (Kd.V_reads' ho4).2; clear ho3 ho4 hb) | ((with_reducible refine gate_dst (N := 7) rfl ?_); refine box_event ?hg (N := 7) ?hd (cs := #[.int .i64 0, .int .i64 0, .int .i64 0, .slice none 0 0, .slice none 0 0]) (t := 27) ?hr ?_; (case hd => rfl); (case hg => rfl); (case hr => first | (go_simp; done) | (go_simp; rfl)); intro gb hg w3 hbox hb; have H3 := Aside0.mk (below_step H2.out hb); have HX := Aside0.mk hbox; have HL := Aside0.mk (show w.heap.size ≤ gb from by rw [hg]; exact below_size H2.out); have f0 := blk_frozen hbox 0; have f1 := blk_frozen hbox 1; have f2 := blk_frozen hbox 2; have f3 := blk_frozen hbox 3; have f4 := blk_frozen hbox 4; have z0 := (blk_cell hbox 0).trans rfl; have z1 := (blk_cell hbox 1).trans rfl; have z2 := (blk_cell hbox 2).trans rfl; have z3 := (blk_cell hbox 3).trans rfl; have z4 := (blk_cell hbox 4).trans rfl; have H23 := Aside0.mk hb; have HG2 := Aside0.mk hg; clear hg hbox hb))
      have HS0 := Aside0.mk (show Sr w gb Ao4 co4 L ks (((((w3.setCell ⟨gb, 0, none⟩ (.int .i64 5)).setCell ⟨gb, 1, none⟩ (.int .i64 b)).setCell ⟨gb, 2, none⟩ (.int .i64 e)).setCell ⟨gb, 3, none⟩ (.slice Ao3 ns.length co3)).setCell ⟨gb, 4, none⟩ (.slice Ao4 L co4)) from by
        refine ⟨below5 H3.out HL.out, (blk_cell (put5 HX.out) 4).trans rfl, ?_⟩
        have h4 := HV4.out.2
        rw [HKL.out] at h4
        exact Kd.C_below h4 (below5 H23.out (by rw [HG2.out]; exact Nat.le_refl _)))
      clear f0 f1 f2 f3 f4 z0 z1 z2 z3 z4
      go_cut [9] (fun v9 wc => v9 = .int .i64 (wn : Int) ∧ Aside0 (Sr w gb Ao4 co4 L ks wc))
      case first =>
        by_cases hlt : stop < L
        · have d2 : decide ((stop : Int) < (L : Int)) = true := decide_eq_true (by omega)
          have i1 : IntKind.i64.wrap ((stop : Int) + 1) = (wn : Int) := by
            rcases hs1 with h | h
            · rw [h, ← HWN.out, HKL.out, if_pos hlt]
            · omega
          clear hsl hs1
          go_wp2
          go_meet
          case rel => exact ⟨by first | rfl | exact congrArg (Value.int .i64) i1 | (have h := i1; rw [IntKind.wrap_i64] at h; simp <;> (unfold wrap64 <;> omega)), HS0⟩
        · have d2 : decide ((stop : Int) < (L : Int)) = false := decide_eq_false (by omega)
          have i1 : (L : Int) = (wn : Int) := by rw [← HWN.out, HKL.out, if_neg hlt]
          clear hsl hs1
          go_wp2
          go_meet
          case rel => exact ⟨by rw [← i1], HS0⟩
      obtain ⟨rfl, HS1⟩ := hcut
      clear HS0 HX HL H23 HG2 H3 H2 H1 HK HF HV4 hsl hs1
      go_wp2_with (first | (go_at_call 7; (with_reducible refine (KM.out _ HS1.out.bel).mono ?_); rintro e' w4 ⟨v0, rfl, hR, hB⟩; have HS2 := Aside0.mk (HS1.out.more hB); obtain ⟨A2, c2, rfl⟩ := Kd.V_slice (Kd.R_V (base' := 0) hR); have HR2 := Aside0.mk (Kd.V_reads' (Kd.R_V (base' := 0) hR)).2; have hln2 := HL1.out; rw [hln2] at HR2 ⊢; clear hR hB hln2))
      have HSW0 := Aside0.mk (show Sw w gb Ao4 co4 L ks w4.heap.size N l1 A1 c1 A2 c2 (w4.alloc (.cells #[.slice A1 N c1, .slice A2 (N + 1) c2] 22)) from by
        have hb := below_alloc_ w4 (.cells #[.slice A1 N c1, .slice A2 (N + 1) c2] 22)
        have hk := heap_alloc_new w4 (.cells #[.slice A1 N c1, .slice A2 (N + 1) c2] 22)
        exact ⟨HS2.out.more hb, (blk_cell hk 0).trans rfl, (blk_cell hk 1).trans rfl, HR1.out _ (HS2.out.more hb).bel, Kd.C_below HR2.out.2 hb, hc3, HR2.out.1⟩)
      generalize w4.heap.size = gw at HSW0
      go_loopg [55] 2 (fun gk v55 wr => ∃ i : Nat, v55 = .int .i64 (i : Int) ∧ Aside0 (i ≤ 2 ∧ 2 - i ≤ gk ∧ Sw w gb Ao4 co4 L ks gw N l1 A1 c1 A2 c2 wr))
      case atStart => exact ⟨0, rfl, ⟨by omega, by omega, HSW0.out⟩⟩
      case round =>
        clear HSW0 HS2 HS1 HR2 KM
        obtain ⟨i, rfl, HR⟩ := hrel
        have HQ := Aside0.mk HR.out.2.2
        by_cases hi2 : i = 2
        · subst hi2
          go_wp2
          go_ret
          exact ⟨rfl, HQ.out.sr.bel⟩
        · obtain ⟨Ai, ni, ci, row, hrow, hlen, hway⟩ : ∃ (Ai : Option Addr) (ni ci : Nat) (row : List ByteArray), (row = l1 ∨ row = l1 ++ [starB]) ∧ row.length = ni ∧ ∀ W, Sw w gb Ao4 co4 L ks gw N l1 A1 c1 A2 c2 W → W.cell? ⟨gw, i, none⟩ = some (.slice Ai ni ci) ∧ Kd.C Kd.string W Ai ni row ∧ ni ≤ ci := by
            have hi := HR.out.1
            obtain h | h : i = 0 ∨ i = 1 := by omega
            · subst h
              exact ⟨A1, N, c1, l1, .inl rfl, HLN.out.1, fun W h => ⟨h.y0, h.r1, h.n1⟩⟩
            · subst h
              exact ⟨A2, N + 1, c2, l1 ++ [starB], .inr rfl, HL1.out, fun W h => ⟨h.y1, h.r2, h.n2⟩⟩
          have i1 : (i : Int) < 2 := by have := HR.out.1; omega
          have i1' : i < 2 := by have := HR.out.1; omega
          have KWI := Aside0.mk (fun W (h : Sw w gb Ao4 co4 L ks gw N l1 A1 c1 A2 c2 W) => KW.out row hrow Ai ci (by rw [hlen]; exact (hway W h).2.2) W (by rw [hlen]; exact (hway W h).2.1) (HGW.out W h.sr.bel))
          rw [hlen] at KWI
          have x0 := (hway _ HQ.out).1
          clear hway hrow hlen hi2
          go_wp2_with (first | (go_at_call 8; (with_reducible refine (KWI.out _ HQ.out).mono ?_); rintro e' w6 ⟨⟨v, rfl, ho⟩, hB⟩; have HQ6 := Aside0.mk (HQ.out.more hB); obtain ⟨Ac, cc, rfl⟩ := own_slice ho; have HO6 := Aside0.mk ho; have x4 := HQ6.out.sr.box; clear ho hB x0))
          have HC0 := Aside0.mk (show Sc w gb Ao4 co4 L ks gw N l1 A1 c1 A2 c2 _ Ac wn cc tx kq w6 from ⟨HQ6.out, HO6.out⟩)
          have HRI := Aside0.mk (And.intro HR.out.1 HR.out.2.1)
          obtain ⟨i1n, hi1n⟩ : ∃ n, i + 1 = n := ⟨_, rfl⟩
          have i2 : IntKind.i64.wrap ((i : Int) + 1) = (i1n : Int) := by rw [IntKind.wrap_i64]; omega
          have HI1 := Aside0.mk (And.intro hi1n i1')
          generalize wr.heap.size = BB at HC0
          clear HO6 HQ6 x4 HQ KWI HR hi1n
          go_loopg [87] wn (fun gk v87 wq => ∃ k : Nat, v87 = .int .i64 (k : Int) ∧ Aside0 (k ≤ wn ∧ wn - k ≤ gk ∧ Sc w gb Ao4 co4 L ks gw N l1 A1 c1 A2 c2 BB Ac wn cc tx kq wq))
          case atStart => exact ⟨0, rfl, ⟨Nat.zero_le _, by omega, HC0.out⟩⟩
          case round =>
            clear HC0
            obtain ⟨k, rfl, HR⟩ := hrel
            have HC := Aside0.mk HR.out.2.2
            by_cases hkn : k = wn
            · subst hkn
              go_wp2
              go_roundg (2 - i1n)
              case measure => have := HRI.out; have := HI1.out; omega
              case rel => exact ⟨i1n, by simp, ⟨by have := HI1.out; omega, Nat.le_refl _, HC.out.sw⟩⟩
            · have hklt : k < wn := by have := HR.out.1; omega
              have k1 : (k : Int) < (wn : Int) := by omega
              have hkL : k < L := by have := HWL.out; have := HKL.out; omega
              have k2 : (k : Int) < (L : Int) := by omega
              obtain ⟨k1n, hk1n⟩ : ∃ n, k + 1 = n := ⟨_, rfl⟩
              have k3 : IntKind.i64.wrap ((k : Int) + 1) = (k1n : Int) := by have := HLL.out; rw [IntKind.wrap_i64]; omega
              obtain ⟨g, rfl, hcc⟩ : ∃ g, Ac = some ⟨g, 0, none⟩ ∧ wn ≤ cc := by
                rcases HC.out.own.2 with ⟨h1, h2⟩ | ⟨g, cap, cur, h1, _, _, h2, _⟩
                · omega
                · obtain ⟨h3, _, h4⟩ := Value.slice.inj h1
                  exact ⟨g, h3, by omega⟩
              have HCC := Aside0.mk (fun W (h : Sc w gb Ao4 co4 L ks gw N l1 A1 c1 A2 c2 BB (some ⟨g, 0, none⟩) wn cc tx kq W) => (show W.cell? ⟨g, k * 3, none⟩ = some (.int .i64 (k : Int)) ∧ W.cell? ⟨g, k * 3 + 1, none⟩ = some (.string (tx k)) ∧ W.cell? ⟨g, k * 3 + 2, none⟩ = some (.int .i64 (kq k)) from by
                obtain ⟨r1, r2, r3⟩ := rowC_get tx kq wn k hklt
                have h1 := h.own.cells rfl _ _ r1
                have h2 := h.own.cells rfl _ _ r2
                have h3 := h.own.cells rfl _ _ r3
                rw [add0_, Nat.mul_comm] at h1 h2 h3
                exact ⟨h1, h2, h3⟩))
              obtain ⟨x1, x2, x3⟩ := HCC.out _ HC.out
              obtain ⟨ad, A3, c3, A4, c4, rfl, e0, e1, e2, e3, e4, l3, s3, l4, s4⟩ := at_T27 HC.out.sw.sr.kids (k : Int) (by omega) (by omega)
              have hrd : rd_T27 ks (k : Int) = ks[k]'(by rw [hL]; exact hkL) := by
                unfold rd_T27
                rw [Int.toNat_natCast, List.getD_eq_getElem?_getD, List.getElem?_eq_getElem (by rw [hL]; exact hkL)]
                rfl
              obtain ⟨hk1, hk2⟩ := HKids.out
              obtain ⟨q1, q2⟩ := hk1 k (by rw [hL]; exact hkL)
              have q3 := hk2 k (by rw [hL]; exact hkL)
              rw [← hrd] at q1 q2 q3
              generalize rd_T27 ks (k : Int) = kid at e0 e1 e2 e3 e4 l3 s3 l4 s4 q1 q2 q3
              obtain ⟨y0, y1, y2, y3, y4⟩ := kid
              dsimp only at e0 e1 e2 e3 e4 l3 s3 l4 s4 q1 q2
              rw [Int.toNat_natCast] at e0 e1 e2 e3 e4
              have hraw := raw_of H64.out q3
              rw [← q2] at hraw
              have hkj := kind_of y0 (jv_kind (show JV a0 y0 y1 y2 y3 y4 from q3.val))
              rw [← q1] at hkj
              have hxb := HC.out.sw.sr.box
              have hW1 := below_alloc_ wr (.cells #[.int .i64 (k : Int), .string (tx k), .int .i64 (kq k)] 36)
              have hbk := heap_alloc_new wr (.cells #[.int .i64 (k : Int), .string (tx k), .int .i64 (kq k)] 36)
              obtain ⟨X, hX⟩ : ∃ X, wr.alloc (.cells #[.int .i64 (k : Int), .string (tx k), .int .i64 (kq k)] 36) = X := ⟨_, rfl⟩
              rw [hX] at hW1 hbk
              have HSX := Aside0.mk (HC.out.more hW1)
              obtain ⟨gc, hgc⟩ : ∃ gc, wr.heap.size = gc := ⟨_, rfl⟩
              rw [hgc] at hbk
              have HAll := Aside0.mk (fun W (hb : Below X.heap.size X W) => (show W.cell? ⟨gc, 0, none⟩ = some (.int .i64 (k : Int)) ∧ W.cell? ⟨gc, 1, none⟩ = some (.string (tx k)) ∧ W.cell? ⟨gc, 2, none⟩ = some (.int .i64 (kq k)) ∧ W.cell? ⟨gb, 4, none⟩ = some (.slice (some ad) L co4) ∧ W.cell? (ad.add (k * 5)) = some (.int .i64 y0) ∧ W.cell? ⟨(ad.add (k * 5)).block, (ad.add (k * 5)).off + 1, none⟩ = some (.int .i64 y1) ∧ W.cell? ⟨(ad.add (k * 5)).block, (ad.add (k * 5)).off + 2, none⟩ = some (.int .i64 y2) ∧ W.cell? ⟨(ad.add (k * 5)).block, (ad.add (k * 5)).off + 3, none⟩ = some (.slice A3 y3.length c3) ∧ W.cell? ⟨(ad.add (k * 5)).block, (ad.add (k * 5)).off + 4, none⟩ = some (.slice A4 y4.length c4) ∧ Aside0 (Below X.heap.size X W) from
                ⟨keep_ ((blk_cell hbk 0).trans rfl) hb, keep_ ((blk_cell hbk 1).trans rfl) hb, keep_ ((blk_cell hbk 2).trans rfl) hb, keep_ (keep_ hxb hW1) hb, keep_ (keep_ e0 hW1) hb, keep_ (keep_ e1 hW1) hb, keep_ (keep_ e2 hW1) hb, keep_ (keep_ e3 hW1) hb, keep_ (keep_ e4 hW1) hb, ⟨hb⟩⟩))
              have KR := Aside0.mk (fun W (hb : Below X.heap.size X W) => spec_Raw.calls a0 y0 y1 y2 A3 c3 y3 A4 c4 y4 (tx k) W (Kd.C_below (Kd.C_below s3 hW1) hb) l3 (Kd.C_below (Kd.C_below s4 hW1) hb) l4 hraw)
              have KJ := Aside0.mk (fun W => jK_.calls y0 (kq k) W hkj)
              have HK1 := Aside0.mk (And.intro hk1n hklt)
              have b4 : (L : Int) ≤ (co4 : Int) ∨ True := .inr trivial
              clear e0 e1 e2 e3 e4 l3 s3 l4 s4 q1 q2 q3 hraw hkj hxb hbk hk1 hk2 hrd HC hkL hklt hkn hk1n HCC
              go_upto_region 18 with (fail)
              (try simp only [hX, hgc])
              clear x1 x2 x3 hX hW1
              obtain ⟨f0, f1, f2, f3, f4, f5, f6, f7, f8, _⟩ := HAll.out X (Below.refl _ _)
              go_region_held3 (fun w' => w'.cell? ⟨gc, 0, none⟩ = some (.int .i64 (k : Int)) ∧ w'.cell? ⟨gc, 1, none⟩ = some (.string (tx k)) ∧ w'.cell? ⟨gc, 2, none⟩ = some (.int .i64 (kq k)) ∧ w'.cell? ⟨gb, 4, none⟩ = some (.slice (some ad) L co4) ∧ w'.cell? (ad.add (k * 5)) = some (.int .i64 y0) ∧ w'.cell? ⟨(ad.add (k * 5)).block, (ad.add (k * 5)).off + 1, none⟩ = some (.int .i64 y1) ∧ w'.cell? ⟨(ad.add (k * 5)).block, (ad.add (k * 5)).off + 2, none⟩ = some (.int .i64 y2) ∧ w'.cell? ⟨(ad.add (k * 5)).block, (ad.add (k * 5)).off + 3, none⟩ = some (.slice A3 y3.length c3) ∧ w'.cell? ⟨(ad.add (k * 5)).block, (ad.add (k * 5)).off + 4, none⟩ = some (.slice A4 y4.length c4) ∧ Aside0 (Below X.heap.size X w'))
                (first | exact HAll.out _ (Below.refl _ _) | exact HAll.out _ (Below.refl _ _).drew | exact HAll.out _ HB7.out | exact HAll.out _ HB7.out.drew | exact HAll.out _ HB8.out | exact HAll.out _ HB8.out.drew)
                (first | (go_at_call 9; (with_reducible refine (KR.out _ (Below.refl _ _).drew).mono ?_); rintro e' w7 ⟨rfl, hB⟩; have HB7 := Aside0.mk (below_step (Below.refl _ _).drew hB); clear hB) | (go_at_call 9; (with_reducible refine (KR.out _ HB8.out).mono ?_); rintro e' w7 ⟨rfl, hB⟩; have HB7 := Aside0.mk (below_step HB8.out hB); clear hB) | (go_at_call 10; (with_reducible refine (KJ.out _).mono ?_); rintro e' w8 ⟨rfl, hD⟩; have HB8 := Aside0.mk (below_step (show Below X.heap.size X _ from by first | exact HB7.out | exact HB7.out.drew | exact (Below.refl _ _).drew | exact Below.refl _ _) hD.below); clear hD))
              go_wp2
              go_roundg (wn - k1n)
              case measure => have := HR.out; have := HK1.out; omega
              case rel => exact ⟨k1n, by simp, ⟨by have := HK1.out; omega, Nat.le_refl _, HSX.out.more (show Below X.heap.size X _ from by first | exact HB7.out | exact HB7.out.drew | exact HB8.out | exact HB8.out.drew)⟩⟩
def laws_FnJpWildStop.Pure : Prop := True
theorem laws_FnJpWildStop.walk (P : laws_FnJpWildStop.Pure) (a0 : ByteArray) (a1 : Option Addr) (len1 cap1 : Nat) (z1 : List ByteArray) (a2 : Int) (w : World) (w0 : a0.size ≤ 140737488351232) (w1 : (a1 = none ∧ len1 = 0 ∧ cap1 = 0 ∧ z1 = []) ∨ ∃ x, a1 = some x ∧ len1 ≤ cap1 ∧ cap1 ≤ maxLen ∧ z1.length = cap1 ∧ (∀ i, i < z1.length → w.cell? (x.add i) = some (.string (z1.getD i ByteArray.empty))) ∧ ∀ s ∈ z1, s.size ≤ maxLen) (w2 : (Lit.int .i64 a2).wf = true) (hG : Glob w) :
    Calls Tryz.prog 3 #[.string a0, .slice a1 len1 cap1, .int .i64 a2] w fun e w' => e = .returned (.bool true) ∧ Below w.heap.size w w' := by
  obtain ⟨l1, rfl, hr1, hm1, hw1, hc1⟩ := strs_row w1
  have h2 : -9223372036854775808 ≤ a2 ∧ a2 ≤ 9223372036854775807 := by
    have h := w2
    simp [Lit.wf, IntKind.min, IntKind.max, IntKind.signed, IntKind.bits] at h
    exact h
  exact law_calls a0 _ _ l1 a2 h2.1 h2.2 w hr1 hc1 (by have : l1.length ≤ 9223372036854775807 := hm1; omega) hG
end Go.Proofs.YtpdohioobbfncaaGreatDoor.PFnJpWildStop