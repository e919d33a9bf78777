/- What fastjson's checks of blanks, strings and numbers answer. -/
import Derived.Test.YtdhiihegfdmokaaDoorVRFnFjCheckObject
namespace Go.Proofs.YtdhiihegfdmokaaDoor.JFnFjCheckObject
open Go.RowKit Go.Proofs.YtdhiihegfdmokaaDoor.PFnFjCheckObject Go.Proofs.YtdhiihegfdmokaaDoorW.PrintWords Go.Proofs.YtdhiihegfdmokaaDoorW.PrintLast Go.Proofs.YtdhiihegfdmokaaDoorW.PrintMore
set_option linter.unusedSimpArgs false
set_option linter.unusedVariables false

/-! ### ends of a text -/
abbrev sx (T : ByteArray) (i : Nat) : ByteArray := T.extract i T.size
theorem sx_zero (T : ByteArray) : sx T 0 = T := ByteArray.extract_zero_size
theorem sx_size (T : ByteArray) (i : Nat) : (sx T i).size = T.size - i := by rw [ByteArray.size_extract]; omega
theorem sx_bt (T : ByteArray) (i : Nat) (q : Int) (h0 : 0 ≤ q) : bt (sx T i) q = bt T (i + q) := by
  unfold bt
  by_cases h : q.toNat < (sx T i).size
  · have hh := h
    rw [sx_size] at hh
    have h2 : ((i : Int) + q).toNat < T.size := by omega
    rw [dif_pos h, dif_pos h2, ByteArray.getElem_extract]
    congr 3
    omega
  · have hh := h
    rw [sx_size] at hh
    rw [dif_neg h, dif_neg (by omega)]
theorem sx_nat (T : ByteArray) (i : Nat) (q : Nat) : bt (sx T i) (q : Int) = bt T ((i + q : Nat) : Int) := by
  rw [sx_bt T i q (by omega)]
  congr 1
theorem sx_cut (T : ByteArray) (i m : Nat) (h : i + m ≤ T.size) : (sx T i).extract m (sx T i).size = sx T (i + m) := ext_next T i m h
theorem sx_sx (T : ByteArray) (i m : Nat) (h : i + m ≤ T.size) : sx (sx T i) m = sx T (i + m) := ext_next T i m h
theorem sx_end (T : ByteArray) : (⟨#[]⟩ : ByteArray) = sx T T.size := by
  apply ByteArray.ext
  apply Array.ext
  · have := sx_size T T.size
    show 0 = (sx T T.size).size
    omega
  · intro i h1 h2; cases h1
theorem bt_rng (T : ByteArray) (i : Int) : 0 ≤ bt T i ∧ bt T i ≤ 255 := by
  unfold bt
  split
  · have := (T[i.toNat]'(by assumption)).toNat_lt
    omega
  · omega
theorem bt_in {T : ByteArray} {i : Nat} (h : bt T i ≠ 0) : i < T.size := by
  apply Decidable.byContradiction
  intro hn
  apply h
  unfold bt
  rw [dif_neg (by omega)]

/-! ### blanks -/
theorem skip_l (s : ByteArray) (hs : s.size ≤ 100000) (d : Nat) : ∀ i : Nat, s.size - i = d → i ≤ s.size →
    ∃ n : Nat, i ≤ n ∧ n ≤ s.size ∧ Ev (fun k => fastjson_skipWSSlow.l0 k s (i : Int)) (sx s n) ∧ (∀ q : Nat, i ≤ q → q < n → IsBl (bt s q)) ∧ (n = s.size ∨ ¬ IsBl (bt s n)) := by
  induction d with
  | zero =>
    intro i hd hi
    refine ⟨i, by omega, hi, ?_, fun q _ _ => by omega, .inl (by omega)⟩
    obtain rfl : i = s.size := by omega
    refine Ev.step (fun k => by rw [fastjson_skipWSSlow.l0]) (Ev.neg (by omega) (Ev.eq ?_ (Ev.now _)))
    exact sx_end s
  | succ d ih =>
    intro i hd hi
    have go : ∀ n : Nat, i + 1 ≤ n → n ≤ s.size → IsBl (bt s i) → Ev (fun k => fastjson_skipWSSlow.l0 k s ((i + 1 : Nat) : Int)) (sx s n) → Ev (fun k => fastjson_skipWSSlow.l0 k s (i : Int)) (sx s n) := by
      intro n _ _ hb e
      refine Ev.step (fun k => by rw [fastjson_skipWSSlow.l0]) (Ev.pos (by omega) (Ev.pos (by omega) ?_))
      rw [w1 i (by omega)]
      by_cases c1 : bt s i = 32
      · exact Ev.pos c1 e
      · refine Ev.neg c1 ?_
        by_cases c2 : bt s i = 10
        · exact Ev.pos c2 e
        · refine Ev.neg c2 ?_
          by_cases c3 : bt s i = 9
          · exact Ev.pos c3 e
          · exact Ev.neg c3 (Ev.pos (by unfold IsBl at hb; omega) e)
    by_cases hb : IsBl (bt s i)
    · obtain ⟨n, h1, h2, e, h3, h4⟩ := ih (i + 1) (by omega) (by omega)
      refine ⟨n, by omega, h2, go n h1 h2 hb e, fun q a b => ?_, h4⟩
      by_cases hq : q = i
      · rw [hq]; exact hb
      · exact h3 q (by omega) b
    · refine ⟨i, by omega, hi, ?_, fun q _ _ => by omega, .inr hb⟩
      unfold IsBl at hb
      refine Ev.step (fun k => by rw [fastjson_skipWSSlow.l0]) (Ev.pos (by omega) (Ev.pos (by omega) (Ev.neg (by omega) (Ev.neg (by omega) (Ev.neg (by omega) (Ev.neg (by omega) (Ev.pos (by omega) (Ev.eq ?_ (Ev.now _)))))))))
      rw [Int.toNat_natCast]
/-- What is left behind the blanks. -/
theorem skip_ev (s : ByteArray) (hs : s.size ≤ 100000) : ∃ n : Nat, n ≤ s.size ∧ Ev (fun k => fastjson_skipWS.f k s) (sx s n) ∧ (∀ q : Nat, q < n → IsBl (bt s q)) ∧ (n = s.size ∨ ¬ IsBl (bt s n)) := by
  unfold fastjson_skipWS.f
  by_cases h0 : (s.size : Int) = 0
  · exact ⟨0, by omega, Ev.pos h0 (Ev.eq (sx_zero s).symm (Ev.now _)), fun q _ => by omega, .inl (by omega)⟩
  by_cases h1 : bt s 0 > 32
  · exact ⟨0, by omega, Ev.neg h0 (Ev.pos (by omega) (Ev.pos h1 (Ev.eq (sx_zero s).symm (Ev.now _)))), fun q _ => by omega, .inr (by unfold IsBl; simp only [Int.ofNat_zero]; show ¬ (bt s ((0 : Nat) : Int) = _ ∨ _); rw [Int.ofNat_zero]; omega)⟩
  have slow : ∀ n : Nat, Ev (fun k => fastjson_skipWSSlow.f k s) (sx s n) → Ev (fun k => if (s.size : Int) = 0 then some s else if 0 < (s.size : Int) then (if bt s 0 > 32 then some s else ((fastjson_skipWSSlow.f k s).bind fun t291 => some t291)) else none) (sx s n) := fun n e =>
    Ev.neg h0 (Ev.pos (by omega) (Ev.neg h1 (Ev.bind e (Ev.now _))))
  by_cases hb : IsBl (bt s 0)
  · obtain ⟨n, h2, h3, e, h4, h5⟩ := skip_l s hs (s.size - 1) 1 (by omega) (by omega)
    refine ⟨n, h3, slow n ?_, fun q hq => ?_, h5⟩
    · unfold fastjson_skipWSSlow.f
      have j : ∀ b : Bool, b = false → Ev (fun k => fastjson_skipWSSlow.j0 k s b) (sx s n) := fun b hb => by
        subst hb
        have e : Ev (fun k => fastjson_skipWSSlow.l0 k s 1) (sx s n) := e
        exact Ev.step (fun k => by rw [fastjson_skipWSSlow.j0]) (Ev.neg Bool.false_ne_true e)
      refine Ev.neg h0 (Ev.pos (by omega) ?_)
      by_cases c1 : bt s 0 = 32
      · exact Ev.pos c1 (j _ rfl)
      · refine Ev.neg c1 ?_
        by_cases c2 : bt s 0 = 10
        · exact Ev.pos c2 (j _ rfl)
        · refine Ev.neg c2 ?_
          by_cases c3 : bt s 0 = 9
          · exact Ev.pos c3 (j _ rfl)
          · exact Ev.neg c3 (j _ (by unfold IsBl at hb; simp; omega))
    · by_cases e0 : q = 0
      · rw [e0]; exact hb
      · exact h4 q (by omega) hq
  · refine ⟨0, by omega, slow 0 ?_, fun q hq => by omega, .inr hb⟩
    unfold IsBl at hb
    unfold fastjson_skipWSSlow.f
    refine Ev.neg h0 (Ev.pos (by omega) (Ev.neg (by omega) (Ev.neg (by omega) (Ev.neg (by omega) ?_))))
    rw [show (bt s 0 != 13) = true by simp; omega]
    exact Ev.step (fun k => by rw [fastjson_skipWSSlow.j0]) (Ev.pos rfl (Ev.eq (sx_zero s).symm (Ev.now _)))
/-- The same at a place of a text. -/
theorem skip_at (T : ByteArray) (hs : T.size ≤ 100000) (i : Nat) (hi : i ≤ T.size) : ∃ n : Nat, n ≤ T.size ∧ Ev (fun k => fastjson_skipWS.f k (sx T i)) (sx T n) ∧ Blk T i n := by
  have hz := sx_size T i
  obtain ⟨n, h1, e, h2, h3⟩ := skip_ev (sx T i) (by omega)
  rw [sx_sx T i n (by omega)] at e
  refine ⟨i + n, by omega, e, by omega, by omega, fun q a b => ?_, ?_⟩
  · have := h2 (q - i).toNat (by omega)
    rw [sx_nat] at this
    rwa [show ((i + (q - i).toNat : Nat) : Int) = q by omega] at this
  · rcases h3 with h3 | h3
    · left; omega
    · right; rw [sx_nat] at h3; exact h3

/-! ### strings -/
theorem err_new (s : ByteArray) : errors_New.f s = some (some 0) := rfl
theorem ib (s : ByteArray) (c : Int) (v : Int) (h : Lib.indexByte s.data.toList c.toNat.toUInt8 = v) : strings_IndexByte.f s c = some v := by
  unfold strings_IndexByte.f; rw [h]
theorem hx_iff (c : Nat) : (∃ d, hx c = some d) ↔ IsHex c := by
  unfold hx IsHex
  split
  · rename_i h; exact ⟨fun _ => .inl (by omega), fun _ => ⟨_, rfl⟩⟩
  · split
    · rename_i h; exact ⟨fun _ => .inr (.inl (by omega)), fun _ => ⟨_, rfl⟩⟩
    · split
      · rename_i h; exact ⟨fun _ => .inr (.inr (by omega)), fun _ => ⟨_, rfl⟩⟩
      · exact ⟨fun h => (by obtain ⟨d, h⟩ := h; cases h), fun h => (by omega)⟩
theorem hexs_iff (l : List UInt8) : ∀ acc, (∃ v, hexs acc l = some v) ↔ ∀ x ∈ l, IsHex (x.toNat : Nat) := by
  induction l with
  | nil => intro acc; exact ⟨fun _ x hx => (by cases hx), fun _ => ⟨_, rfl⟩⟩
  | cons c l ih =>
    intro acc
    unfold hexs
    cases h : hx c.toNat with
    | none =>
      constructor
      · rintro ⟨v, hv⟩; cases hv
      · intro ha
        obtain ⟨d, hd⟩ := (hx_iff c.toNat).2 (ha c (List.mem_cons_self ..))
        rw [h] at hd; cases hd
    | some d =>
      dsimp only
      rw [ih]
      constructor
      · intro ha x hx
        rcases List.mem_cons.1 hx with rfl | hx
        · exact (hx_iff _).1 ⟨d, h⟩
        · exact ha x hx
      · exact fun ha x hx => ha x (List.mem_cons_of_mem _ hx)
theorem pu_ev (u : ByteArray) (hu : u.size = 4) : ∃ v e, strconv_ParseUint.f u 16 16 = some (v, e) ∧ ((e = none ∧ ∀ q : Nat, q < 4 → IsHex (bt u q)) ∨ (e = some 0 ∧ ¬ ∀ q : Nat, q < 4 → IsHex (bt u q))) := by
  have hl : u.data.toList.length = u.size := by rw [Array.length_toList]; rfl
  have key : (∀ x ∈ u.data.toList, IsHex (x.toNat : Nat)) ↔ ∀ q : Nat, q < 4 → IsHex (bt u q) := by
    constructor
    · intro h q hq
      have hq2 : u.data.toList[q]? = some (u.data.toList[q]'(by omega)) := List.getElem?_eq_getElem (by omega)
      rw [bt_list u q _ hq2]
      exact h _ (List.getElem_mem _)
    · intro h x hx
      obtain ⟨q, hq, e⟩ := List.getElem_of_mem hx
      have := h q (by omega)
      rwa [bt_list u q x (by rw [← e]; exact List.getElem?_eq_getElem hq)] at this
  unfold strconv_ParseUint.f
  rw [if_pos ⟨rfl, rfl, hu⟩]
  cases h : hexs 0 u.data.toList with
  | some v => exact ⟨_, _, rfl, .inl ⟨rfl, key.1 ((hexs_iff _ 0).1 ⟨v, h⟩)⟩⟩
  | none =>
    refine ⟨_, _, rfl, .inr ⟨rfl, fun ha => ?_⟩⟩
    obtain ⟨v, hv⟩ := (hexs_iff _ 0).2 (key.2 ha)
    rw [h] at hv; cases hv
/-- The loop over a string's escapes. -/
def EscOut (R tail : ByteArray) (m : Nat) (r : R3) : Prop := (r.2.2.isSome = true ∧ ¬ EL (fun q => bt R q) R.size m) ∨
  ∃ n : Nat, m ≤ n ∧ n ≤ R.size ∧ r = (sx R n, tail, none) ∧ EL (fun q => bt R q) R.size m ∧ (∀ q, m ≤ q → q < n → bt R q < 32 → ∃ e : Nat, q < e ∧ e < n ∧ bt R e = 92)
theorem chain_yes (J : Nat → Int → Bool → Option R3) (ch : Int) (r : R3) (he : IsEsc ch) (t : ∀ b : Bool, b = true → Ev (fun k => J k ch b) r) :
    Ev (fun k => if ch = 34 then (J k ch (ch == 34)) else (if ch = 92 then (J k ch (ch == 92)) else (if ch = 47 then (J k ch (ch == 47)) else (if ch = 98 then (J k ch (ch == 98)) else (if ch = 102 then (J k ch (ch == 102)) else (if ch = 110 then (J k ch (ch == 110)) else (if ch = 114 then (J k ch (ch == 114)) else (J k ch (ch == 116))))))))) r := by
  refine Ev.congr (f := fun k => J k ch true) (fun k => ?_) (t true rfl)
  rcases he with rfl | rfl | rfl | rfl | rfl | rfl | rfl | rfl <;> simp
theorem chain_no (J : Nat → Int → Bool → Option R3) (ch : Int) (r : R3) (he : ¬ IsEsc ch) (t : Ev (fun k => J k ch false) r) :
    Ev (fun k => if ch = 34 then (J k ch (ch == 34)) else (if ch = 92 then (J k ch (ch == 92)) else (if ch = 47 then (J k ch (ch == 47)) else (if ch = 98 then (J k ch (ch == 98)) else (if ch = 102 then (J k ch (ch == 102)) else (if ch = 110 then (J k ch (ch == 110)) else (if ch = 114 then (J k ch (ch == 114)) else (J k ch (ch == 116))))))))) r := by
  refine Ev.congr (f := fun k => J k ch false) (fun k => ?_) t
  unfold IsEsc at he
  have h : ch ≠ 34 ∧ ch ≠ 92 ∧ ch ≠ 47 ∧ ch ≠ 98 ∧ ch ≠ 102 ∧ ch ≠ 110 ∧ ch ≠ 114 ∧ ch ≠ 116 := by omega
  have e : (ch == 116) = false := beq_eq_false_iff_ne.2 h.2.2.2.2.2.2.2
  simp [h, e]
abbrev gb (R : ByteArray) : Nat → Int := fun q => bt R q
/-- Behind an escape of a bytes that begins at e, no backslash between m and e. -/
theorem fwd_ (R tail : ByteArray) (m e a : Nat) (r : R3) (hme : m ≤ e) (ha : 2 ≤ a) (ha2 : e + a ≤ R.size) (ge : bt R (e : Int) = 92) (sk : EL (gb R) R.size m ↔ EL (gb R) R.size e)
    (hel : EL (gb R) R.size e ↔ EL (gb R) R.size (e + a)) (hlo : ∀ q : Nat, e ≤ q → q < e + a → 32 ≤ bt R q) (ho : EscOut R tail (e + a) r) : EscOut R tail m r := by
  rcases ho with ⟨h5, h6⟩ | ⟨n', h5, h6, h7, h8, h9⟩
  · exact .inl ⟨h5, fun h => h6 (hel.1 (sk.1 h))⟩
  · refine .inr ⟨n', by omega, h6, h7, sk.2 (hel.2 h8), fun q a1 a2 a3 => ?_⟩
    by_cases hq : q < e
    · exact ⟨e, hq, by omega, ge⟩
    · by_cases hq2 : q < e + a
      · have := hlo q (by omega) hq2; omega
      · exact h9 q (by omega) a2 a3
theorem bad_ (R tail : ByteArray) (m e : Nat) (ch : Int) (he : ¬ IsEsc ch) (hl : e < R.size) (ge : bt R (e : Int) = 92) (gch : bt R ((e + 1 : Nat) : Int) = ch) (sk : EL (gb R) R.size m ↔ EL (gb R) R.size e)
    (r : R3) (hr : r.2.2.isSome = true) (hno : ¬ (e + 5 < R.size ∧ ch = 117 ∧ ∀ q : Nat, e + 2 ≤ q → q < e + 6 → IsHex (bt R q))) : EscOut R tail m r := .inl ⟨hr, fun h => by
  obtain ⟨_, h | h⟩ := EL.esc_inv (g := gb R) ge hl (sk.1 h)
  · have h1 : IsEsc (bt R ((e + 1 : Nat) : Int)) := h.1
    rw [gch] at h1; exact he h1
  · obtain ⟨h5, h6, h7, _⟩ := h
    have h5' : bt R ((e + 1 : Nat) : Int) = 117 := h5
    exact hno ⟨h6, by rw [← gch]; exact h5', fun q a b => h7 q a b⟩⟩
/-- An escape that no 'u' begins. -/
theorem esc_one (R tail : ByteArray) (hR : R.size ≤ 100000) (m e : Nat) (ch : Int) (hme : m ≤ e) (hl : e + 1 < R.size) (he : IsEsc ch) (ge : bt R (e : Int) = 92) (gch : bt R ((e + 1 : Nat) : Int) = ch) (sk : EL (gb R) R.size m ↔ EL (gb R) R.size e)
    (r : R3) (ho : EscOut R tail (e + 2) r) : EscOut R tail m r := by
  refine fwd_ R tail m e 2 r hme (by omega) (by omega) ge sk ⟨fun h => ?_, fun h => EL.esc (g := gb R) hl ge (by show IsEsc (bt R _); rw [gch]; exact he) h⟩ (fun q a b => ?_) ho
  · obtain ⟨_, h | h⟩ := EL.esc_inv (g := gb R) ge (by omega) h
    · exact h.2
    · have h1 : bt R ((e + 1 : Nat) : Int) = 117 := h.1
      unfold IsEsc at he; omega
  · by_cases eq : q = e
    · rw [eq, ge]; omega
    · obtain rfl : q = e + 1 := by omega
      rw [gch]; unfold IsEsc at he; omega
theorem esc_u (R tail : ByteArray) (hR : R.size ≤ 100000) (m e : Nat) (ch : Int) (hme : m ≤ e) (hl : e + 5 < R.size) (he : ¬ IsEsc ch) (hu : ch = 117) (ge : bt R (e : Int) = 92) (gch : bt R ((e + 1 : Nat) : Int) = ch) (sk : EL (gb R) R.size m ↔ EL (gb R) R.size e)
    (hex : ∀ q : Nat, e + 2 ≤ q → q < e + 6 → IsHex (bt R q)) (r : R3) (ho : EscOut R tail (e + 6) r) : EscOut R tail m r := by
  refine fwd_ R tail m e 6 r hme (by omega) (by omega) ge sk ⟨fun h => ?_, fun h => EL.uni (g := gb R) hl ge (by show bt R _ = 117; rw [gch]; exact hu) hex h⟩ (fun q a b => ?_) ho
  · obtain ⟨_, h | h⟩ := EL.esc_inv (g := gb R) ge (by omega) h
    · have h1 : IsEsc (bt R ((e + 1 : Nat) : Int)) := h.1
      rw [gch] at h1; exact absurd h1 he
    · exact h.2.2.2
  · by_cases eq : q = e
    · rw [eq, ge]; omega
    · by_cases eq1 : q = e + 1
      · rw [eq1, gch, hu]; omega
      · have := hex q (by omega) b
        unfold IsHex at this; omega
/-- What stands behind a backslash at e: the code there. -/
theorem esc_at (R tail : ByteArray) (hR : R.size ≤ 100000) (m e : Nat) (hme : m ≤ e) (hl : e + 1 < R.size) (ge : bt R (e : Int) = 92) (sk : EL (gb R) R.size m ↔ EL (gb R) R.size e)
    (ih : ∀ m' : Nat, e + 2 ≤ m' → m' ≤ R.size → ∃ r, Ev (fun k => fastjson_validateString.l0 k (sx R m') tail) r ∧ EscOut R tail m' r) (ch : Int) (gch : bt R ((e + 1 : Nat) : Int) = ch) :
    ∃ r, Ev (fun k => if ch = 34 then (fastjson_validateString.j2 k (sx R (e + 2)) tail ch (ch == 34)) else (if ch = 92 then (fastjson_validateString.j2 k (sx R (e + 2)) tail ch (ch == 92)) else (if ch = 47 then (fastjson_validateString.j2 k (sx R (e + 2)) tail ch (ch == 47)) else (if ch = 98 then (fastjson_validateString.j2 k (sx R (e + 2)) tail ch (ch == 98)) else (if ch = 102 then (fastjson_validateString.j2 k (sx R (e + 2)) tail ch (ch == 102)) else (if ch = 110 then (fastjson_validateString.j2 k (sx R (e + 2)) tail ch (ch == 110)) else (if ch = 114 then (fastjson_validateString.j2 k (sx R (e + 2)) tail ch (ch == 114)) else (fastjson_validateString.j2 k (sx R (e + 2)) tail ch (ch == 116))))))))) r ∧ EscOut R tail m r := by
  by_cases he : IsEsc ch
  · obtain ⟨r, ev, ho⟩ := ih (e + 2) (by omega) (by omega)
    refine ⟨r, chain_yes (fun k => fastjson_validateString.j2 k (sx R (e + 2)) tail) ch r he (fun b hb => ?_), esc_one R tail hR m e ch hme hl he ge gch sk r ho⟩
    subst hb
    exact Ev.step (fun k => by rw [fastjson_validateString.j2]) (Ev.pos rfl ev)
  · have z2 := sx_size R (e + 2)
    suffices h : ∃ r, Ev (fun k => fastjson_validateString.j2 k (sx R (e + 2)) tail ch false) r ∧ EscOut R tail m r by
      obtain ⟨r, ev, ho⟩ := h
      exact ⟨r, chain_no (fun k => fastjson_validateString.j2 k (sx R (e + 2)) tail) ch r he ev, ho⟩
    have bad : ∀ r : R3, r.2.2.isSome = true → (¬ (e + 5 < R.size ∧ ch = 117 ∧ ∀ q : Nat, e + 2 ≤ q → q < e + 6 → IsHex (bt R q))) → EscOut R tail m r := fun r => bad_ R tail m e ch he (by omega) ge gch sk r
    by_cases hu : ch = 117
    · by_cases h4s : ((sx R (e + 2)).size : Int) < 4
      · refine ⟨(sx R (e + 2), tail, some 0), ?_, bad _ rfl (fun h => by omega)⟩
        refine Ev.step (fun k => by rw [fastjson_validateString.j2]) ?_
        exact Ev.neg Bool.false_ne_true (Ev.pos hu (Ev.pos h4s (Ev.bd (err_new _) (Ev.now _))))
      · have zu : ((sx R (e + 2)).extract 0 4).size = 4 := by rw [ByteArray.size_extract]; omega
        obtain ⟨v, er, hp, hq⟩ := pu_ev ((sx R (e + 2)).extract 0 4) zu
        have ub : ∀ q : Nat, q < 4 → bt ((sx R (e + 2)).extract 0 4) (q : Int) = bt R ((e + 2 + q : Nat) : Int) := fun q hq => by
          rw [bt_x _ 0 4 q (by omega) (by omega) (by omega)]
          rw [show ((0 : Nat) : Int) + (q : Int) = (q : Int) by omega, sx_nat]
        have cut4 : (sx R (e + 2)).extract 4 (sx R (e + 2)).size = sx R (e + 6) := sx_cut R (e + 2) 4 (by omega)
        have st : ∀ r, Ev (fun k => if er.isNone = true then (fastjson_validateString.l0 k (sx R (e + 6)) tail) else ((errors_New.f (⟨#[105, 110, 118, 97, 108, 105, 100, 32, 101, 115, 99, 97, 112, 101, 32, 115, 101, 113, 117, 101, 110, 99, 101, 32, 92, 117]⟩ : ByteArray)).bind fun t308 => (some (sx R (e + 2), tail, t308)))) r → Ev (fun k => fastjson_validateString.j2 k (sx R (e + 2)) tail ch false) r := fun r ev => by
          refine Ev.step (fun k => by rw [fastjson_validateString.j2]) ?_
          refine Ev.neg Bool.false_ne_true (Ev.pos hu (Ev.neg h4s (Ev.pos (by omega) (Ev.pos (by omega) (Ev.bd hp ?_)))))
          rw [cut4]
          exact ev
        rcases hq with ⟨rfl, hh⟩ | ⟨rfl, hh⟩
        · obtain ⟨r, ev, ho⟩ := ih (e + 6) (by omega) (by omega)
          have hex : ∀ q : Nat, e + 2 ≤ q → q < e + 6 → IsHex (bt R q) := fun q a b => by
            have := hh (q - (e + 2)) (by omega)
            rw [ub _ (by omega), show e + 2 + (q - (e + 2)) = q by omega] at this
            exact this
          exact ⟨r, st r (Ev.pos rfl ev), esc_u R tail hR m e ch hme (by omega) he hu ge gch sk hex r ho⟩
        · refine ⟨(sx R (e + 2), tail, some 0), st _ (Ev.neg Bool.false_ne_true (Ev.bd (err_new _) (Ev.now _))), bad _ rfl (fun h => hh (fun q hq => ?_))⟩
          rw [ub q hq]
          exact h.2.2 _ (by omega) (by omega)
    · refine ⟨(sx R (e + 2), tail, some 0), ?_, bad _ rfl (fun h => hu h.2.1)⟩
      refine Ev.step (fun k => by rw [fastjson_validateString.j2]) ?_
      exact Ev.neg Bool.false_ne_true (Ev.neg hu (Ev.bd (err_new _) (Ev.now _)))
theorem esc_loop (R tail : ByteArray) (hR : R.size ≤ 100000) (d : Nat) : ∀ m : Nat, R.size - m ≤ d → m ≤ R.size → ∃ r, Ev (fun k => fastjson_validateString.l0 k (sx R m) tail) r ∧ EscOut R tail m r := by
  induction d using Nat.strongRecOn with
  | _ d ih =>
  intro m hd hm
  have hz := sx_size R m
  rcases ix_bt 92 (sx R m) with ⟨h1, h2⟩ | ⟨n, hn, h1, h3, h4⟩
  · refine ⟨(sx R m, tail, none), ?_, .inr ⟨m, Nat.le_refl _, hm, rfl, EL.all (g := gb R) hm (fun q a b => ?_), fun q a b => by omega⟩⟩
    · refine Ev.step (fun k => by rw [fastjson_validateString.l0]) ?_
      refine Ev.bd (a := -1) (ib _ 92 _ h1) ?_
      exact Ev.pos (by decide) (Ev.now _)
    have := h2 (q - m) (by omega)
    rw [sx_nat, show m + (q - m) = q by omega] at this
    exact this
  have ge : bt R ((m + n : Nat) : Int) = 92 := by rw [sx_nat] at h3; exact h3
  have nb : ∀ q, m ≤ q → q < m + n → gb R q ≠ 92 := fun q a b => by
    have := h4 (q - m) (by omega)
    rw [sx_nat, show m + (q - m) = q by omega] at this
    exact this
  have sk : EL (gb R) R.size m ↔ EL (gb R) R.size (m + n) := EL.skip (g := gb R) n (by omega) nb
  by_cases hl : n + 1 < (sx R m).size
  · have hch : bt (sx R m) ((n + 1 : Nat) : Int) = bt R ((m + n + 1 : Nat) : Int) := by rw [sx_nat]; rfl
    have cut : (sx R m).extract (n + 2) (sx R m).size = sx R (m + n + 2) := sx_cut R m (n + 2) (by omega)
    obtain ⟨r, e, ho⟩ := esc_at R tail hR m (m + n) (by omega) (by omega) ge sk (fun m' a b => ih (R.size - m') (by omega) m' (by omega) b) _ rfl
    refine ⟨r, ?_, ho⟩
    refine Ev.step (fun k => by rw [fastjson_validateString.l0]) ?_
    refine Ev.bd (a := (n : Int)) (ib _ 92 _ h1) ?_
    rw [w1 n (by omega), w1 (n + 1) (by omega), hch, Int.toNat_natCast, cut]
    exact Ev.neg (by omega) (Ev.neg (by omega) (Ev.pos (by omega) (Ev.pos (by omega) (Ev.pos (by omega) (Ev.pos (by omega) e)))))
  · refine ⟨(sx R m, tail, some 0), ?_, .inl ⟨rfl, fun h => ?_⟩⟩
    · refine Ev.step (fun k => by rw [fastjson_validateString.l0]) ?_
      refine Ev.bd (a := (n : Int)) (ib _ 92 _ h1) ?_
      rw [w1 n (by omega)]
      exact Ev.neg (by omega) (Ev.pos (by omega) (Ev.bd (err_new _) (Ev.now _)))
    · have := (EL.esc_inv (g := gb R) ge (by omega) (sk.1 h)).1
      omega
end Go.Proofs.YtdhiihegfdmokaaDoor.JFnFjCheckObject
