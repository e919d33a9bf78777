/- laws.FnJrEach, told by hand: the errors of ArrayEach, Append and ObjectEach where keys lead; no condition beside those that each theorem states. -/
import Derived.Test.YtpdohioobbfncaaGreatDoorPFnJrEachx
import Derived.Test.YtpdohioobbfncaaGreatDoorWordsFnJrEach
import Derived.Test.YtpdohioobbfncaaGreatDoorHJRFnJrEach
import Derived.Test.YtpdohioobbfncaaGreatDoorFOFnJrEach
namespace Go.Proofs.YtpdohioobbfncaaGreatDoor.PFnJrEach
open Go.RowKit Go.Proofs.YtpdohioobbfncaaGreatDoor.JFnJrEach Go.Proofs.YtpdohioobbfncaaGreatDoorW.PrintWords Go.Proofs.YtpdohioobbfncaaGreatDoorW.PrintLast Go.Proofs.YtpdohioobbfncaaGreatDoorW.PrintMore
set_option linter.unusedVariables false
set_option linter.unusedSimpArgs false
theorem fits_val (l : List ByteArray) (hl : (l.length : Int) ≤ 9223372036854775807) : ∃ t, Ev (fun k => zF_.f k l) t ∧ (t = true → l.length ≤ 2147483647 ∧ ∀ x ∈ l, x.size ≤ 2147483647) := by
  have go : ∀ (d i : Nat), i ≤ l.length → l.length - i ≤ d → ∃ t, Ev (fun k => zF_.l0 k l (l.length : Int) (i : Int)) t ∧ (t = true → ∀ x ∈ l.drop i, x.size ≤ 2147483647) := by
    intro d
    have stop : ∃ t, Ev (fun k => zF_.l0 k l (l.length : Int) (l.length : Int)) t ∧ (t = true → ∀ x ∈ l.drop l.length, x.size ≤ 2147483647) :=
      ⟨_, Ev.step (fun k => by rw [zF_.l0]) (Ev.neg (by omega) (Ev.now _)), fun _ x hx => by rw [List.drop_length] at hx; cases hx⟩
    induction d with
    | zero =>
      intro i h1 hd
      obtain rfl : i = l.length := by omega
      exact stop
    | succ d ih =>
      intro i h1 hd
      by_cases hi : i < l.length
      · by_cases c : ((rdOf ByteArray.empty l (i : Int)).size : Int) > 2147483647
        · exact ⟨_, Ev.step (fun k => by rw [zF_.l0]) (Ev.pos (by omega) (Ev.pos (by omega) (Ev.pos (by omega) (Ev.pos c (Ev.now _))))), fun h => by cases h⟩
        · obtain ⟨t, e, h⟩ := ih (i + 1) (by omega) (by omega)
          refine ⟨t, Ev.step (fun k => by rw [zF_.l0]) (Ev.pos (by omega) (Ev.pos (by omega) (Ev.pos (by omega) (Ev.neg c ?_)))), fun ht x hx => ?_⟩
          · rw [w64 (by omega) (by omega)]
            exact e
          · rw [List.drop_eq_getElem_cons hi] at hx
            rcases List.mem_cons.1 hx with rfl | hx
            · unfold rdOf at c
              rw [Int.toNat_natCast, List.getD_eq_getElem?_getD, List.getElem?_eq_getElem hi] at c
              simp at c
              omega
            · exact h ht x hx
      · obtain rfl : i = l.length := by omega
        exact stop
  unfold zF_.f
  by_cases c : (l.length : Int) > 2147483647
  · exact ⟨_, Ev.pos c (Ev.now _), fun h => by cases h⟩
  · obtain ⟨t, e, h⟩ := go l.length 0 (by omega) (by omega)
    exact ⟨t, Ev.neg c e, fun ht => ⟨by omega, fun x hx => h ht x (by rwa [List.drop_zero])⟩⟩
/-- What is no object begins otherwise. -/
theorem jv_not6 {s : ByteArray} {kd i j : Int} {ns : List Sp} {ks : List Pl} (h : JV s kd i j ns ks) (h0 : 0 ≤ i) (hk : kd ≠ 6) : bt s i ≠ 123 := by
  have wd : ∀ (w : ByteArray) (c : Int), Word s i w → 0 < w.size → bt w 0 = c → bt s i = c := fun w c h hw hc => by
    have := h.at_ h0 0 hw
    rw [show i + ((0 : Nat) : Int) = i by omega] at this
    rw [this]
    exact hc
  cases h with
  | null h => rw [wd _ 110 h (by decide) rfl]; decide
  | fals h => rw [wd _ 102 h (by decide) rfl]; decide
  | tru h => rw [wd _ 116 h (by decide) rfl]; decide
  | num h hd => omega
  | str h t => omega
  | arr0 h _ _ _ => omega
  | arr h _ _ => omega
  | obj0 h _ _ _ => exact absurd rfl hk
  | obj h _ _ => exact absurd rfl hk
theorem below5 {w W : World} {G : Nat} {a0 a1 a2 a3 a4 : Value} (h : Below w.heap.size w W) (hG : w.heap.size ≤ G) : Below w.heap.size w (((((W.setCell ⟨G, 0, none⟩ a0).setCell ⟨G, 1, none⟩ a1).setCell ⟨G, 2, none⟩ a2).setCell ⟨G, 3, none⟩ a3).setCell ⟨G, 4, none⟩ a4) := below_setc (below_setc (below_setc (below_setc (below_setc h hG) hG) hG) hG) hG
/-- What is no array begins otherwise. -/
theorem jv_not5 {s : ByteArray} {kd i j : Int} {ns : List Sp} {ks : List Pl} (h : JV s kd i j ns ks) (h0 : 0 ≤ i) (hk : kd ≠ 5) : bt s i ≠ 91 := by
  have wd : ∀ (w : ByteArray) (c : Int), Word s i w → 0 < w.size → bt w 0 = c → bt s i = c := fun w c h hw hc => by
    have := h.at_ h0 0 hw
    rw [show i + ((0 : Nat) : Int) = i by omega] at this
    rw [this]
    exact hc
  cases h with
  | null h => rw [wd _ 110 h (by decide) rfl]; decide
  | fals h => rw [wd _ 102 h (by decide) rfl]; decide
  | tru h => rw [wd _ 116 h (by decide) rfl]; decide
  | num h hd => omega
  | str h t => omega
  | arr0 h _ _ _ => exact absurd rfl hk
  | arr h _ _ => exact absurd rfl hk
  | obj0 h _ _ _ => omega
  | obj h _ _ => omega
theorem EL.close {s : ByteArray} {e o f : Nat} {r : List (Nat × Nat × Int)} (h : EL s e o r f) : bt s (f : Int) = 93 ∧ o < f := by
  induction h with
  | last hg nt yz ze hz => have := hg.ax; have := hg.xy; exact ⟨hz, by omega⟩
  | more hg nt yz ze hz t ih => have := hg.ax; have := hg.xy; exact ⟨ih.1, by omega⟩
/-- What the walk wants to know of the three functions. -/
theorem each_found {a0 : ByteArray} {l1 : List ByteArray} {kd b e : Int} {ns : List Sp} {ks : List Pl} (hs : (a0.size : Int) ≤ 65536) (hln : l1.length ≤ 2147483647) (hks : ∀ x ∈ l1, x.size ≤ 2147483647) {kd0 b0 e0 : Int} {ns0 : List Sp} {ks0 : List Pl} (hj : JT a0 kd0 b0 e0 ns0 ks0) (hp : Path a0 ⟨kd0, b0, e0, ns0, ks0⟩ l1 ⟨kd, b, e, ns, ks⟩) (hg : GoodP a0 ⟨kd, b, e, ns, ks⟩) (A1 : Option Addr) (c1 : Nat) (hc1 : l1.length ≤ c1) (W : World) (hr : Kd.C Kd.string W A1 l1.length l1) (hG : Glob W) :
    (Calls Tryz.prog 11 #[.string a0, .slice A1 l1.length c1] W fun e' w' => e' = .returned (.int .i64 (if kd = 5 then 0 else 5)) ∧ Below W.heap.size W w') ∧
    (Calls Tryz.prog 12 #[.string a0, .string ⟨#[49]⟩, .slice A1 l1.length c1] W fun e' w' => e' = .returned (.int .i64 (if kd = 5 then 0 else 5)) ∧ Below W.heap.size W w') ∧
    (Calls Tryz.prog 13 #[.string a0, .slice A1 l1.length c1] W fun e' w' => e' = .returned (.int .i64 (if kd = 6 then 0 else 6)) ∧ Below W.heap.size W w') := by
  have h64 : a0.size ≤ 2147483647 := by omega
  obtain ⟨q, hsr, hq0, hgv⟩ := get_path h64 hj hp hg
  have h1 : 0 ≤ b := hg.lo
  have h2 : b < e := hg.lt
  have h3 : e ≤ a0.size := hg.hi
  have hval : JV a0 kd b e ns ks := hg.val
  have eb : ((b.toNat : Nat) : Int) = b := by omega
  obtain ⟨kb, ko, hkA, hK⟩ := ky_of hr
  have hf0 := hj.front.le
  have hlt0 := hj.lt
  have hhi0 := hj.hi
  have hAq : Aq a0 l1 b0.toNat q b.toNat := by
    refine ⟨hsr, fun h => ⟨hq0 h, ?_⟩, ?_, by omega, hgv.nt, hgv.ax, by omega⟩
    · subst h
      cases hp
      rfl
    · refine nt_of h64 (a := 0) (y := b0.toNat) ?_ (by omega) (Nat.le_refl _)
      rw [show ((b0.toNat : Nat) : Int) = b0 by omega]
      exact hj.front
  have arr : kd = 5 → AE a0 a0.size b.toNat (ks.map elN) (e - 1).toNat := fun h => ae_of h64 (Nat.le_refl _) hval h h1 h2 (by omega)
  have a1 : (kd = 5 ↔ bt a0 (b.toNat : Int) = 91) := by
    rw [eb]
    refine ⟨fun h => ?_, fun h => ?_⟩
    · subst h; exact jv5 hval
    · apply Decidable.byContradiction
      intro hn
      exact jv_not5 hval h1 hn h
  have a2 : (kd = 6 ↔ bt a0 (b.toNat : Int) = 123) := by
    rw [eb]
    refine ⟨fun h => ?_, fun h => ?_⟩
    · subst h; exact jv6 hval
    · apply Decidable.byContradiction
      intro hn
      exact jv_not6 hval h1 hn h
  have a3 : (kd = 5 ↔ kk kd = 4) := by unfold kk; constructor <;> intro h <;> (repeat' split at h) <;> simp_all
  refine ⟨?_, ?_, ?_⟩
  · have h := jrarr_calls (els := ks.map elN) (f := (e - 1).toNat) hAq (by
      by_cases h5 : kd = 5
      · exact .inr (arr h5)
      · exact .inl (fun h => h5 (a1.2 h))) h64 hks A1 c1 kb ko hc1 hkA W hK hG
    simp only [a1]
    exact h
  · have h := jrapp_calls (one := ⟨#[49]⟩) (kd := kk kd) ⟨hsr, hq0, hgv⟩ (fun h4 => by
      obtain ⟨_, _, ho, q2, nq, hq1, hq2, hel⟩ := arr (a3.2 h4)
      have hc : bt a0 (((e - 1).toNat : Nat) : Int) = 93 ∧ b.toNat < (e - 1).toNat := by
        rcases hel with ⟨h93, _, hf⟩ | ⟨_, hel⟩
        · rw [hf]; exact ⟨h93, by omega⟩
        · exact ⟨hel.close.1, by have := hel.close.2; omega⟩
      rw [show e.toNat - 1 = (e - 1).toNat by omega]
      exact ⟨by omega, hc.1⟩) (by decide) h64 hks A1 c1 kb ko hc1 hkA W hK hG
    simp only [a3]
    exact h
  · by_cases h6 : kd = 6
    · obtain ⟨els, hoe⟩ := oe_of h64 (Nat.le_refl _) hval h6 h1 h2 (by omega)
      have h := jrobj_calls ⟨hsr, hq0, hgv.nt, hgv.ax, by omega, .inr hoe⟩ h64 hks A1 c1 kb ko hc1 hkA W hK hG
      simp only [a2]
      exact h
    · have h := jrobj_calls (els := []) (f := 0) ⟨hsr, hq0, hgv.nt, hgv.ax, by omega, .inl (fun h => h6 (a2.2 h))⟩ h64 hks A1 c1 kb ko hc1 hkA W hK hG
      simp only [a2]
      exact h
set_option maxHeartbeats 4000000 in
set_option maxRecDepth 100000 in
theorem law_calls (a0 : ByteArray) (A1 : Option Addr) (c1 : Nat) (l1 : List ByteArray) (w : World) (hr1 : Kd.C Kd.string w A1 l1.length l1) (hc1 : l1.length ≤ c1) (hl : (l1.length : Int) ≤ 9223372036854775807) (hG : Glob w) :
    Calls Tryz.prog 4 #[.string a0, .slice A1 l1.length c1] w fun e w' => e = .returned (.bool true) ∧ Below w.heap.size w w' := by
  by_cases c : (a0.size : Int) > 2147483647
  · have d1 : decide ((a0.size : Int) > 2147483647) = true := decide_eq_true c
    clear c hr1 hG hl
    go_enter Tryz.func4, Tryz.ntmps4
    go_wp2
    go_ret
    exact ⟨rfl, Below.refl _ _⟩
  have d1 : decide ((a0.size : Int) > 2147483647) = false := decide_eq_false c
  obtain ⟨t, ⟨kf, et⟩, ht⟩ := fits_val l1 hl
  have kz := fun W (h : Below w.heap.size w W) => zF_.calls kf A1 c1 l1 t W (Kd.C_below hr1 h) hc1 (et kf (Nat.le_refl _))
  cases t with
  | false =>
    have HK := Aside0.mk kz
    obtain ⟨N, hN⟩ : ∃ N, l1.length = N := ⟨_, rfl⟩
    rw [hN] at HK ⊢
    clear c hr1 hG hl kz ht et hN hc1
    go_enter Tryz.func4, Tryz.ntmps4
    go_wp2_with (go_at_call 5; (with_reducible refine (HK.out _ (Below.refl _ _)).mono ?_); rintro e w1 ⟨rfl, HD⟩; have H1 := Aside0.mk HD.below; clear HD)
    go_ret
    exact ⟨rfl, H1.out⟩
  | true =>
    obtain ⟨hln, hsz⟩ := ht rfl
    obtain ⟨kd, b, e, ns, ks, ok, ⟨kj, ef⟩, hf⟩ := found_all a0 l1 hl (fun x h => by have := hsz x h; omega)
    have kj1 := fun W (h : Below w.heap.size w W) => jF_.calls kj a0 A1 c1 l1 kd b e ns ks ok W (Kd.C_below hr1 h) hc1 (ef kj (Nat.le_refl _))
    cases ok with
    | false =>
      have HK := Aside0.mk kz
      have HF := Aside0.mk kj1
      obtain ⟨N, hN⟩ : ∃ N, l1.length = N := ⟨_, rfl⟩
      rw [hN] at HK HF ⊢
      clear c hr1 hG hl kz ht et hN hc1 kj1 ef hf hln hsz
      go_enter Tryz.func4, Tryz.ntmps4
      go_wp2_with (first | (go_at_call 5; (with_reducible refine (HK.out _ (Below.refl _ _)).mono ?_); rintro e w1 ⟨rfl, HD⟩; have H1 := Aside0.mk HD.below; clear HD) | (go_at_call 6; (with_reducible refine (HF.out _ H1.out).mono ?_); rintro e w2 ⟨v3, v4, rfl, ho3, ho4, hb⟩; have H2 := Aside0.mk (below_step H1.out hb); obtain ⟨Ao3, co3, rfl⟩ := Kd.V_slice ho3; obtain ⟨Ao4, co4, rfl⟩ := Kd.V_slice ho4; clear ho3 ho4 hb) | ((with_reducible refine gate_dst (N := 5) rfl ?_); refine box_event ?hg (N := 5) ?hd (cs := #[.int .i64 0, .int .i64 0, .int .i64 0, .slice none 0 0, .slice none 0 0]) (t := 27) ?hr ?_; (case hd => rfl); (case hg => rfl); (case hr => first | (go_simp; done) | (go_simp; rfl)); intro gb hg w3 hbox hb; have H3 := Aside0.mk (below_step H2.out hb); have HX := Aside0.mk hbox; have HL := Aside0.mk (show w.heap.size ≤ gb from by rw [hg]; exact below_size H2.out); have f0 := blk_frozen hbox 0; have f1 := blk_frozen hbox 1; have f2 := blk_frozen hbox 2; have f3 := blk_frozen hbox 3; have f4 := blk_frozen hbox 4; have c0 := (blk_cell hbox 0).trans rfl; have c1 := (blk_cell hbox 1).trans rfl; have c2 := (blk_cell hbox 2).trans rfl; have c3 := (blk_cell hbox 3).trans rfl; have c4 := (blk_cell hbox 4).trans rfl; clear hg hbox hb))
      go_ret
      exact ⟨by simp, below5 H3.out HL.out⟩
    | true =>
      obtain ⟨h64, kd0, b0, e0, ns0, ks0, hj, hp, hg⟩ := hf rfl
      have ko := fun W (h : Below w.heap.size w W) => each_found h64 hln hsz hj hp hg A1 c1 hc1 W (Kd.C_below hr1 h) (hG.below h)
      have HK := Aside0.mk kz
      have HF := Aside0.mk kj1
      obtain ⟨ra, hra⟩ : ∃ ra : Int, (if kd = 5 then 0 else 5) = ra := ⟨_, rfl⟩
      obtain ⟨ro, hro⟩ : ∃ ro : Int, (if kd = 6 then 0 else 6) = ro := ⟨_, rfl⟩
      rw [hra, hro] at ko
      have HO := Aside0.mk ko
      obtain ⟨N, hN⟩ : ∃ N, l1.length = N := ⟨_, rfl⟩
      rw [hN] at HK HF HO ⊢
      have hc : ((kd == 5) = true ∧ (kd == 6) = false ∧ ra = 0 ∧ ro = 6) ∨ ((kd == 5) = false ∧ (kd == 6) = true ∧ ra = 5 ∧ ro = 0) ∨ ((kd == 5) = false ∧ (kd == 6) = false ∧ ra = 5 ∧ ro = 6) := by
        by_cases h5 : kd = 5
        · subst h5; exact .inl ⟨rfl, rfl, by rw [← hra]; rfl, by rw [← hro]; rfl⟩
        · by_cases h6 : kd = 6
          · subst h6; exact .inr (.inl ⟨rfl, rfl, by rw [← hra]; rfl, by rw [← hro]; rfl⟩)
          · exact .inr (.inr ⟨beq_eq_false_iff_ne.2 h5, beq_eq_false_iff_ne.2 h6, by rw [← hra, if_neg h5], by rw [← hro, if_neg h6]⟩)
      clear c hr1 hG hl kz ht et hN hc1 kj1 ef hf hln hsz ko hj hp hg h64 hra hro
      rcases hc with ⟨b5, b6, rfl, rfl⟩ | ⟨b5, b6, rfl, rfl⟩ | ⟨b5, b6, rfl, rfl⟩
      all_goals
        go_enter Tryz.func4, Tryz.ntmps4
        go_wp2_with (first | (go_at_call 5; (with_reducible refine (HK.out _ (Below.refl _ _)).mono ?_); rintro e w1 ⟨rfl, HD⟩; have H1 := Aside0.mk HD.below; clear HD) | (go_at_call 6; (with_reducible refine (HF.out _ H1.out).mono ?_); rintro e w2 ⟨v3, v4, rfl, ho3, ho4, hb⟩; have H2 := Aside0.mk (below_step H1.out hb); obtain ⟨Ao3, co3, rfl⟩ := Kd.V_slice ho3; obtain ⟨Ao4, co4, rfl⟩ := Kd.V_slice ho4; clear ho3 ho4 hb) | ((with_reducible refine gate_dst (N := 5) rfl ?_); refine box_event ?hg (N := 5) ?hd (cs := #[.int .i64 0, .int .i64 0, .int .i64 0, .slice none 0 0, .slice none 0 0]) (t := 27) ?hr ?_; (case hd => rfl); (case hg => rfl); (case hr => first | (go_simp; done) | (go_simp; rfl)); intro gb hg w3 hbox hb; have H3 := Aside0.mk (below_step H2.out hb); have HX := Aside0.mk hbox; have HL := Aside0.mk (show w.heap.size ≤ gb from by rw [hg]; exact below_size H2.out); have f0 := blk_frozen hbox 0; have f1 := blk_frozen hbox 1; have f2 := blk_frozen hbox 2; have f3 := blk_frozen hbox 3; have f4 := blk_frozen hbox 4; have c0 := (blk_cell hbox 0).trans rfl; have c1 := (blk_cell hbox 1).trans rfl; have c2 := (blk_cell hbox 2).trans rfl; have c3 := (blk_cell hbox 3).trans rfl; have c4 := (blk_cell hbox 4).trans rfl; clear hg hbox hb) | (go_at_call 11; (with_reducible refine (HO.out _ (below5 H3.out HL.out)).1.mono ?_); rintro e w4 ⟨rfl, hb⟩; have H4 := Aside0.mk (below_step (below5 H3.out HL.out) hb); clear hb f0 f1 f2 f3 f4 c0 c1 c2 c3 c4) | (go_at_call 12; (with_reducible refine (HO.out _ H4.out).2.1.mono ?_); rintro e w5 ⟨rfl, hb⟩; have H5 := Aside0.mk (below_step H4.out hb); clear hb) | (go_at_call 13; (with_reducible refine (HO.out _ H5.out).2.2.mono ?_); rintro e w6 ⟨rfl, hb⟩; have H6 := Aside0.mk (below_step H5.out hb); clear hb))
        go_ret
        exact ⟨by simp, H6.out⟩
def laws_FnJrEach.Pure : Prop := True
theorem laws_FnJrEach.walk (P : laws_FnJrEach.Pure) (a0 : ByteArray) (a1 : Option Addr) (len1 cap1 : Nat) (z1 : List ByteArray) (w : World) (w0 : a0.size ≤ 140737488351232) (w1 : (a1 = none ∧ len1 = 0 ∧ cap1 = 0 ∧ z1 = []) ∨ ∃ x, a1 = some x ∧ len1 ≤ cap1 ∧ cap1 ≤ maxLen ∧ z1.length = cap1 ∧ (∀ i, i < z1.length → w.cell? (x.add i) = some (.string (z1.getD i ByteArray.empty))) ∧ ∀ s ∈ z1, s.size ≤ maxLen) (hG : Glob w) :
    Calls Tryz.prog 4 #[.string a0, .slice a1 len1 cap1] w fun e w' => e = .returned (.bool true) ∧ Below w.heap.size w w' := by
  obtain ⟨l1, rfl, hr1, hm1, hw1, hc1⟩ := strs_row w1
  exact law_calls a0 _ _ l1 w hr1 hc1 (by have : l1.length ≤ 9223372036854775807 := hm1; omega) hG
end Go.Proofs.YtpdohioobbfncaaGreatDoor.PFnJrEach